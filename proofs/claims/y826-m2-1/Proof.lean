import JvmDerived
import JvmDerived.Pilot.@@N@@Statement
import JvmDerived.Pilot.@@N@@Code
set_option linter.unusedVariables false
set_option linter.unusedSimpArgs false
namespace Jvm.RoadKit
open Sem ClassFile Op Lib Jvm.Stand Jvm.Free Jvm.LawKit
section New
variable {p : Program} {l : Launch} {e : Env} {R : Room} {s : State} {m : MethodId} {args : Array Value} {below : List Frame} {meth : Method} {c : Code} {T : State} {locs : List Loc} {cells slots : Nat}
theorem retI (X : Stand p l e R s m args below meth c T locs cells slots) (hx : p.tables.exec = Jvm.exec) {pc : Nat} {Ls : Array Slot} {z : Int32} {rest : List Value} (hret : meth.sig.returnType = some .int) (hd : decode c.code pc = .ok (.ireturn, 1)) {fs : List Frame}
    (hl : ∀ (f : JFrame) (acts : List Action), f.method = m → f.locked = none → f.entered = [] → (doReturn e (T.setTop f) acts (some (.int z))).1 = T.setFrames fs) : Steps p.tables e below (T.setTop (mkF m pc Ls (.int z :: rest))) (T.setFrames fs) :=
  retOut X hx (w := .int z) (t := .int) hret rfl (Or.inl ⟨rfl, Or.inl rfl, _, rfl⟩) hd hl
end New
end Jvm.RoadKit
namespace Jvm.Own
open Sem ClassFile Op Lib Jvm.Stand Jvm.Free Jvm.LawKit Jvm.RoadKit
/-- from A on the run comes to B -/
abbrev Go (tb : Tables) (e : Env) (below : List Frame) (A B : State) : Prop := ∀ t, Steps tb e below B t → Steps tb e below A t
theorem gc {tb : Tables} {e : Env} {below : List Frame} {A B C : State} (h : Go tb e below A B) (k : ∀ t, Steps tb e below C t → Steps tb e below B t) : Go tb e below A C := fun t q => h t (k t q)
theorem gcT {tb : Tables} {e : Env} {below : List Frame} {A B C : State} (h : Go tb e below A B) (k : Steps tb e below B C) : Go tb e below A C := fun t q => h t (k.trans q)
theorem goF {tb : Tables} {e : Env} {below : List Frame} {A T : State} {m : MethodId} {pc : Nat} {L L' : Array Slot} {S S' : List Value} (h : Go tb e below A (T.setTop (mkF m pc L S))) (q : mkF m pc L S = mkF m pc L' S') : Go tb e below A (T.setTop (mkF m pc L' S')) := q ▸ h
theorem lremM {p : Program} {l : Launch} {e : Env} {R : Room} {s : State} {m : MethodId} {args : Array Value} {below : List Frame} {meth : Method} {c : Code} {T : State} {locs : List Loc} {cells slots : Nat} {g : JFrame} {target : State} (X : Stand p l e R s m args below meth c T locs cells slots) (hx : p.tables.exec = Jvm.exec) (hg : g.method = m) {x y : Int64} {rest : List Value} (hd : decode c.code g.pc = .ok (.lrem, 1)) (hs : g.stack = .long y :: .long x :: rest) (hy : y ≠ 0)
    (hr : Steps p.tables e below (T.setTop { g with pc := g.pc + 1, stack := .long (x % y) :: rest }) target) : Steps p.tables e below (T.setTop g) target :=
  XS.lrem X.here hx hg hd hs hy (by rw [lrem_mod]; exact hr)
theorem eqInt {s : State} {args : Array Value} {a : Term} {c : Int32} (h : (Cond.eq a (.int c)).value args s none s [] = some true) : a.eval args s none [] s = some (.int c) := by
  obtain ⟨x, y, hx, hy, k1, k2⟩ := cmp_v (Or.inl h)
  cases hy
  obtain ⟨z, rfl⟩ := k2
  simp [Cond.value, hx, Term.eval] at h
  subst h; exact hx
theorem neqInt {s : State} {args : Array Value} {a : Term} {c x : Int32} (hx : a.eval args s none [] s = some (.int x)) (h : (Cond.not (Cond.eq a (.int c))).value args s none s [] = some true) : ¬ x = c := by
  intro q
  have h2 := not_v h
  subst q
  simp [Cond.value, hx, Term.eval] at h2
theorem elAt {s : State} {args : Array Value} {t u : Term} {a w : Addr} {cl : Cell} {ty : FieldType} {i : Int32} (ht : t.eval args s none [] s = some (.ref a)) (A : Arr s s.heap a cl ty) (h : (Cond.eq (.elem t (.int i)) u).value args s none s [] = some true) (hu : u.eval args s none [] s = some (.ref w)) {j : Nat} (hj : i.toNatClampNeg = j) : cl.slots[j]? = some (.ref w) := by
  obtain ⟨x, y, hx, hy, k1, k2⟩ := cmp_v (Or.inl h)
  rw [hu] at hy; cases hy
  have hr : x.isRef = true := k2.2
  have e := gotT (eq_R hx hu hr rfl) h
  subst e
  have q := (elem_in hx ht (Term.int_eval i) A.1).2
  rw [hj] at q; exact q
theorem arvOf {s : State} {args : Array Value} {t : Term} {a : Addr} {cl : Cell} {ty : FieldType} {z : Int32} {vs : List Value} {dv : Value} (hf : Fit s) (ev : t.eval args s none [] s = some (.ref a)) (A : Arr s s.heap a cl ty) (hl : (Term.length t).eval args s none [] s = some (.int z)) (hz : ¬ z < 0) (hn : z.toNatClampNeg = vs.length) (H : HasL cl 0 vs) : Arv s s.heap a cl.cls ty z vs dv := by
  have ha : s.arrayAt? a = some cl := Arr.fin (Vm.Alike.refl _) A
  by_cases q : cl.slots.size < 2 ^ 31
  · rw [len_f ev ha q] at hl
    cases hl
    exact Arv.start hf A q rfl hz hn H
  · simp [Term.eval, ev, ha, q] at hl
theorem selPriv {s : State} {args : Array Value} {C : String} {z y : MethodName} (w : (Cond.selects C z z).before args s = true) (hc : z.cls = y.cls) (hp : s.PrivateAt y) (hi : (Cond.instanceMethod y).before args s = true) (hy : y.cls ≠ "java/lang/invoke/MethodHandle" ∧ y.cls ≠ "java/lang/invoke/VarHandle") : (Cond.selects y.cls y y).before args s = true := by
  obtain ⟨c2, r2, m2, -, -, q3, -, kP, hkP, hkPi⟩ := Cond.selects_spec w
  exact selects_self_of_private (hc ▸ findClass_of_methodNamed q3) hkP hkPi hp hi hy

theorem IB_same {Z : State} {vm vm1 : Vm} {Ts : List String} (I : IB Z vm Ts) (h : vm1.interned = vm.interned) : IB Z vm1 Ts := by
  obtain ⟨more, e, hm⟩ := I
  exact ⟨more, h.trans e, hm⟩
theorem ldcM {p : Program} {l : Launch} {e : Env} {R : Room} {s : State} {m : MethodId} {args : Array Value} {below : List Frame} {meth : Method} {c : Code} {T : State} {locs : List Loc} {cells slots : Nat} {Z : State} {h : Heap} (X : Stand p l e R s m args below meth c T locs cells slots) (hx : p.tables.exec = Jvm.exec) (hZ : Z.Warmed39 s.vm) {a0 : Array Value} {own C : String} {index : Nat} (hown : s.vm.findClass own = some m.cls) (w : (Cond.classLink own index C).before a0 Z = true) {mr : Addr} (M : Mir Z C mr) (eT : T.heap = h)
    {g : JFrame} (hg : g.method = m) (hd : decode c.code g.pc = .ok (.ldc index, 2)) :
    ∃ T', Stand p l e R s m args below meth c T' locs cells slots ∧ T'.heap = h ∧ ∀ target, Steps p.tables e below (T'.setTop { g with pc := g.pc + 2, stack := .ref mr :: g.stack }) target → Steps p.tables e below (T.setTop g) target := by
  obtain ⟨cc, kc, m1, m2, m3, -⟩ := M
  obtain ⟨k', q, ek⟩ := hZ.alike.2.2 _ _ m2
  obtain ⟨vm', X', st⟩ := X.ldcMirror hx hown (mvT hZ w) (a := mr) (by simp [Term.eval, hZ.alike.findClass, m1, q, show k'.mirror = some mr by rw [ek]; exact m3]) hg hd
  exact ⟨_, X', eT, st⟩
theorem backOfI {p : Program} {l : Launch} {e : Env} {R : Room} {s Z : State} {args a0 : Array Value} {below : List Frame} {h : Heap} {y : MethodName} {bytes : ByteArray} {maxL : Nat} {ret : Option FieldType} {rm : Room} {len W : Nat} {as' : Array Value} {Q : Option Value → Heap → List Loc → Prop} {Ts : List String}
    (hM : MetFree l y (head1 [Cond.code y bytes maxL ret] rm) (fun a U => a = as' ∧ Z.Warmed39 U.vm ∧ U.heap = h ∧ IB Z U.vm Ts) (fun _ _ _ _ _ => True) (fun _ U o U' => ∃ v L, o = .returned v ∧ Q v U'.heap L ∧ ReturnedEndW U o U' L rm.cells rm.slots))
    (hZ : Z.Warmed39 s.vm) (I : IB Z s.vm Ts) (wc : (Cond.code y bytes maxL ret).before a0 Z = true) (wz : (Cond.initialized y.cls).before a0 Z = true) (hf : rm.frames + 1 ≤ R.frames) (hl : W + (maxL + 11) + rm.locals ≤ R.locals) :
    BackS l R p e below s args y len W (fun A a => a = as' ∧ A.U.heap = h ∧ A.cells + rm.cells ≤ R.cells ∧ A.slots + rm.slots ≤ R.slots)
      (fun A _ v B => ∃ L, Q v B.U.heap L ∧ B.locs = A.locs ++ L ∧ B.cells = A.cells + rm.cells ∧ B.slots = A.slots + rm.slots) :=
  BackS.of_freeW (bytes := bytes) (maxL := maxL) (ret := ret) (E := fun _ _ o t L k n => k = rm.cells ∧ n = rm.slots ∧ ∃ v, o = .returned v ∧ Q v t.heap L) hM hf hl
    (fun m meth c A a Y hp => have hU : Z.Warmed39 A.U.vm := wtrans hZ Y.warmed
      ⟨by show (Cond.and _ .tt).before a A.U = true; rw [Cond.before_and, mv hU wc]; rfl, mv hU wc, mv hU wz, hp.2.2.1, hp.2.2.2⟩)
    (fun m meth c A a g mk Y hp => ⟨hp.1, wtrans hZ Y.warmed, hp.2.1, IB_same I Y.warmed.interned_eq⟩) (fun _ _ _ _ _ _ _ _ _ => trivial)
    (fun _ _ _ _ ⟨v, L, h1, h2, h3⟩ => ⟨L, _, _, h3, rfl, rfl, v, h1, h2⟩)
    (fun m meth c A a g mk v t L k n Y hp _ _ ⟨e1, e2, v', e3, e4⟩ => by cases e3; subst e1 e2; exact ⟨L, e4, rfl, rfl, rfl⟩)
theorem nsRoot {Z : State} {a0 : Array Value} {O K : String} (w0 : (Cond.noSuperclass O).before a0 Z = true) {x y : MethodName} (ws : (Cond.selects K x y).before a0 Z = true) (hn : O ≠ K) : NS Z O K := by
  obtain ⟨co, ko, o1, o2, o3, -, -⟩ := Cond.noSuperclass_spec w0
  obtain ⟨c2, r2, m2, i1, -, -, -, -, -, -⟩ := Cond.selects_spec ws
  have ne1 := ids_ne o1 i1 hn
  exact ⟨co, c2, o1, i1, fun fuel => by cases fuel with | zero => rfl | succ f => simp [Vm.isSubclassAux, ne1, o2, o3]⟩
theorem nsNo {Z : State} {a0 : Array Value} {C S K : String} (w1 : (Cond.superclass C S).before a0 Z = true) (n : NS Z C K) {x y : MethodName} (ws : (Cond.selects K x y).before a0 Z = true) (hy : y.cls = K) (hn : C ≠ K) : ∃ c t, Z.vm.findClass C = some c ∧ Z.vm.findClass K = some t ∧ Z.vm.assignable c t = false := by
  obtain ⟨c, t, h0, g0, n3⟩ := n
  obtain ⟨p, k, kp, h1, h2, h3, h4, h5, -, h7⟩ := Cond.superclass_spec h0 w1
  obtain ⟨c2, r2, m2, -, -, q3, -, kP, hkP, hkPi⟩ := Cond.selects_spec ws
  have hck : m2.cls = t := Option.some.inj ((findClass_of_methodNamed q3).symm.trans (hy ▸ g0))
  rw [hck] at hkP
  have ne := ids_ne h0 g0 hn
  refine ⟨c, t, h0, g0, ?_⟩
  show Z.vm.assignableAux (255 + 1) c t = false
  rw [Vm.assignableAux]
  simp only [h2, hkP, h5, hkPi, Vm.isSubclass, n3]
  cases kP.kind <;> simp [ne]
theorem neAV {Z : State} {h : Heap} {a b : Addr} {C : String} {n : Nat} {a0 : Array Value} {k : ClassId} {ty : FieldType} {z : Int32} {vs : List Value} {dv : Value} (w : (Cond.instantiable C n).before a0 Z = true) (E : Exa Z h a C) (V : Arv Z h b k ty z vs dv) : a ≠ b := by
  rintro rfl
  obtain ⟨cell, k1, e1, e2, e3, -, -⟩ := E
  obtain ⟨cl, ⟨v1, ⟨-, k2, hk2, comp, hkind⟩, -⟩, -⟩ := V
  obtain ⟨cI, kI, hfI, hkI, hkindI, -⟩ := Cond.instantiable_spec w
  cases e1.symm.trans v1
  cases e2.symm.trans hfI
  cases hkI.symm.trans hk2
  rw [hkindI] at hkind; cases hkind
theorem neFF {Z : State} {h : Heap} {a b x : Addr} {C n d : String} (F : Fld Z h a C n d .null) (G : Fld Z h b C n d (.ref x)) : a ≠ b := by
  rintro rfl
  obtain ⟨c1, cf1, k1, i1, f1, g1, g2, -, -, -, -, g7⟩ := F
  obtain ⟨c2, cf2, k2, i2, f2, v1, v2, -, -, -, -, v7⟩ := G
  cases g1.symm.trans v1
  cases g2.symm.trans v2
  rw [g7] at v7; cases v7
end Jvm.Own
namespace Jvm.Pilot.@@N@@
open Jvm Jvm.ClassFile Sem Op Lib Jvm.Free Jvm.Stand Jvm.LawKit Jvm.RoadKit Jvm.Own Bundle Jvm.Pilot.@@N@@.Jvm.D
theorem own_w {Z : State} {a0 : Array Value} (hw : ∀ d ∈ tables_1, d.before a0 Z = true) (i : Nat) {d : Jvm.Cond} (h : tables_1[i]? = some d) : d.before a0 Z = true := hw _ (List.mem_of_getElem? h)
abbrev own_x0 (c : Int32) : Int32 := nar .byte ((c >>> (0 : Int32)).toInt8.toInt32)
abbrev own_x8 (c : Int32) : Int32 := nar .byte ((c >>> (8 : Int32)).toInt8.toInt32)
abbrev own_xl (c : Int32) : Int32 := nar .byte (c.toInt8.toInt32)
def own_H (Z : State) (de : Addr) (kde : ClassId) (el ea : Addr) (kea : ClassId) (em mr : Addr) : Prop := Sta Z Z.heap "java/util/ArrayList" "DEFAULTCAPACITY_EMPTY_ELEMENTDATA" "[Ljava/lang/Object;" (.ref de) ∧ Exa Z Z.heap de "[Ljava/lang/Object;" ∧ Arv Z Z.heap de kde (.object "java/lang/Object") (0 : Int32) [] .null ∧ Sta Z Z.heap "java/util/ImmutableCollections" "EMPTY_LIST" "Ljava/util/ImmutableCollections$ListN;" (.ref el) ∧ Exa Z Z.heap el "java/util/ImmutableCollections$ListN" ∧ Fld Z Z.heap el "java/util/ImmutableCollections$ListN" "elements" "[Ljava/lang/Object;" (.ref ea) ∧ Arv Z Z.heap ea kea (.object "java/lang/Object") (0 : Int32) [] .null ∧ Sta Z Z.heap "java/util/ImmutableCollections" "EMPTY" "Ljava/lang/Object;" (.ref em) ∧ em < Z.heap.size ∧ Mir Z "[Ljava/lang/Object;" mr
def own_ND (a1 tr bi sz rs ir w0 w1 : Addr) : Prop := a1 ≠ tr ∧ a1 ≠ bi ∧ a1 ≠ sz ∧ a1 ≠ rs ∧ a1 ≠ ir ∧ a1 ≠ w0 ∧ a1 ≠ w1 ∧ tr ≠ bi ∧ tr ≠ sz ∧ tr ≠ rs ∧ tr ≠ ir ∧ tr ≠ w0 ∧ tr ≠ w1 ∧ bi ≠ sz ∧ bi ≠ rs ∧ bi ≠ ir ∧ bi ≠ w0 ∧ bi ≠ w1 ∧ sz ≠ rs ∧ sz ≠ ir ∧ sz ≠ w0 ∧ sz ≠ w1 ∧ rs ≠ ir ∧ rs ≠ w0 ∧ rs ≠ w1 ∧ ir ≠ w0 ∧ ir ≠ w1 ∧ w0 ≠ w1
def own_GE (n0 : Nat) (a1 tr bi sz rs ir w0 w1 : Addr) : Prop := n0 ≤ a1 ∧ n0 ≤ tr ∧ n0 ≤ bi ∧ n0 ≤ sz ∧ n0 ≤ rs ∧ n0 ≤ ir ∧ n0 ≤ w0 ∧ n0 ≤ w1
def own_SZ (h0 : Heap) (tr bi sz rs ir w0 w1 : Addr) : Prop := h0.size ≤ tr ∧ h0.size ≤ bi ∧ h0.size ≤ sz ∧ h0.size ≤ rs ∧ h0.size ≤ ir ∧ h0.size ≤ w0 ∧ h0.size ≤ w1

theorem own_t96 {t : Nat} (h : t ≤ 20) : ¬ Int32.ofNat t = (96 : Int32) := by
  have : ∀ x : Fin 21, ¬ Int32.ofNat x.1 = (96 : Int32) := by decide +kernel
  exact this ⟨t, by omega⟩
theorem own_i0 {t : Nat} (h : t ≤ 20) : (¬ Int32.ofNat t < 0 ∧ Int32.ofNat t < (96 : Int32)) ∧ (Int32.ofNat t).toNatClampNeg = t := by
  have : ∀ x : Fin 21, (¬ Int32.ofNat x.1 < 0 ∧ Int32.ofNat x.1 < (96 : Int32)) ∧ (Int32.ofNat x.1).toNatClampNeg = x.1 := by decide +kernel
  exact this ⟨t, by omega⟩
theorem own_i1 {t : Nat} (h : t ≤ 20) : (¬ Int32.ofNat t + (1 : Int32) < 0 ∧ Int32.ofNat t + (1 : Int32) < (96 : Int32)) ∧ (Int32.ofNat t + (1 : Int32)).toNatClampNeg = t + 1 := by
  have : ∀ x : Fin 21, (¬ Int32.ofNat x.1 + (1 : Int32) < 0 ∧ Int32.ofNat x.1 + (1 : Int32) < (96 : Int32)) ∧ (Int32.ofNat x.1 + (1 : Int32)).toNatClampNeg = x.1 + 1 := by decide +kernel
  exact this ⟨t, by omega⟩
theorem own_i2 {t : Nat} (h : t ≤ 20) : (¬ Int32.ofNat t + (1 : Int32) + (1 : Int32) < 0 ∧ Int32.ofNat t + (1 : Int32) + (1 : Int32) < (96 : Int32)) ∧ (Int32.ofNat t + (1 : Int32) + (1 : Int32)).toNatClampNeg = t + 2 := by
  have : ∀ x : Fin 21, (¬ Int32.ofNat x.1 + (1 : Int32) + (1 : Int32) < 0 ∧ Int32.ofNat x.1 + (1 : Int32) + (1 : Int32) < (96 : Int32)) ∧ (Int32.ofNat x.1 + (1 : Int32) + (1 : Int32)).toNatClampNeg = x.1 + 2 := by decide +kernel
  exact this ⟨t, by omega⟩
theorem own_i3 (t : Nat) : Int32.ofNat (t + 3) = Int32.ofNat t + (1 : Int32) + (1 : Int32) + (1 : Int32) := by
  apply Int32.toBitVec_inj.mp
  simp [BitVec.add_assoc]

def own_m0 (rc i u : Int32) : Int32 := if rc = 0 then i else u
def own_m1 (rc i u : Int32) : Int32 := if rc = 0 then u else i
def own_rc (p : Int32) : Int32 := if p &&& 1 = 0 then (if p &&& 2 = 0 then 0 else 1) else (if p &&& 2 = 0 then 1 else 2)
def own_e0 (p : Int32) : Int32 := if p &&& 1 = 0 then 0 else 1
def own_e1 (p : Int32) : Int32 := if p &&& 2 = 0 then 0 else 1
def own_ra (p u : Int32) : Int32 := if p &&& 1 = 0 then (if p &&& 2 = 0 then u else 1) else (if p &&& 2 = 0 then 0 else (if p &&& 4 = 0 then 0 else 1))
def own_rb (p u : Int32) : Int32 := if p &&& 1 = 0 then u else (if p &&& 2 = 0 then u else (if p &&& 4 = 0 then 1 else 0))
/-- what is listed is what is marked -/
def own_R (rc u0 u1 e0 e1 : Int32) : Prop := (rc = 0 ∧ e0 = 0 ∧ e1 = 0) ∨ (rc = 1 ∧ u0 = 0 ∧ e1 = 0) ∨ (rc = 1 ∧ u0 = 1 ∧ e0 = 0) ∨ (rc = 2 ∧ u0 = 0 ∧ u1 = 1) ∨ (rc = 2 ∧ u0 = 1 ∧ u1 = 0)
theorem own_Rp (p u0 u1 : Int32) : own_R (own_rc p) (own_ra p u0) (own_rb p u1) (own_e0 p) (own_e1 p) := by
  unfold own_R own_rc own_ra own_rb own_e0 own_e1
  by_cases h1 : p &&& 1 = 0 <;> by_cases h2 : p &&& 2 = 0 <;> by_cases h4 : p &&& 4 = 0 <;> simp [h1, h2, h4]
theorem own_sA {Z : State} {a0 : Array Value} (hw : ∀ d ∈ tables_1, d.before a0 Z = true) : ∀ a ∈ Bundle.stringAtoms, a.before a0 Z = true := fun a h => hw a ((by decide +kernel : ∀ w ∈ Bundle.stringAtoms, w ∈ tables_1) a h)

theorem d3_0 : decode jdk_22_method_1_code 0 = .ok (.aload_n 0, 1) := by decide +kernel
theorem d3_1 : decode jdk_22_method_1_code 1 = .ok (.invokespecial 1, 3) := by decide +kernel
theorem d3_4 : decode jdk_22_method_1_code 4 = .ok (.return_, 1) := by decide +kernel
theorem pn3 : plainFor (⟨"java/util/AbstractCollection", "<init>", "()V"⟩ : MethodName) = true := plainFor_of_name (by first | (simp [plainName, overriddenIn]; done) | decide +kernel)
theorem ef_rm3 (m : MethodId) (a1 : Addr) : entryFrame m #[(.ref a1)] 1 = mkF m 0 #[.val (.ref a1)] [] := by first | (simp [entryFrame, mkF, argsToLocals, Value.category]; done) | rfl
def Q3 (Z : State) (a1 : Addr) (h0 : Heap) (n0 : Nat) (v : Option Value) (h : Heap) (L : List Loc) : Prop := v = none ∧ Fr n0 L ∧ (h = h0)
set_option maxRecDepth 65536 in
set_option maxHeartbeats 40000000 in
theorem rm3 (l : Launch) (Z : State) (a0 : Array Value) (hw : ∀ d ∈ tables_1, d.before a0 Z = true) (ws : List Jvm.Cond) (a1 : Addr) (h0 : Heap) (n0 : Nat) (Z0 : n0 ≤ h0.size) :
  MetFree l (⟨"java/util/AbstractCollection", "<init>", "()V"⟩ : MethodName) (head1 (Jvm.Cond.code (⟨"java/util/AbstractCollection", "<init>", "()V"⟩ : MethodName) jdk_22_method_1_code 1 none :: ws) ({ frames := 1, cells := 0, slots := 0, locals := 12 } : Room)) (fun a U => a = #[(.ref a1)] ∧ Z.Warmed39 U.vm ∧ U.heap = h0) (fun _ _ _ _ _ => True) (fun _ U o U' => ∃ v L, o = .returned v ∧ Q3 Z a1 h0 n0 v U'.heap L ∧ FrameEnd U o U' L ({ frames := 1, cells := 0, slots := 0, locals := 12 } : Room).cells ({ frames := 1, cells := 0, slots := 0, locals := 12 } : Room).slots) := by
 refine MetFree.of_bodySF pn3 hisR ?_
 intro p e s m args below meth c s₁ Bd hml0 hP hK
 obtain ⟨rfl, hZ, hh⟩ := hP
 have hx := Bd.exec
 have hby := Bd.bytes
 have hml : c.maxLocals = 1 := hml0
 have hown : s.vm.findClass "java/util/AbstractCollection" = some m.cls := findClass_of_methodNamed Bd.named
 have hnm := (name_of_methodNamed Bd.named Bd.method).1
 have X0 : Stand p l e ({ frames := 1, cells := 0, slots := 0, locals := 12 } : Room) s m #[(.ref a1)] below meth c s₁ [] 0 0 := Stand.of_body Bd
 have e0 : s₁.heap = h0 := by rw [← hh, Bd.state]; rfl
 have N0 := Fr.nil n0
 have p0 : Go p.tables e below (s₁.setTop (entryFrame m #[(.ref a1)] 1)) (s₁.setTop (mkF m 0 #[.val (.ref a1)] [])) := fun t_ k_ => castTop (ef_rm3 m a1) k_
 have p101 : Go p.tables e below _ (s₁.setTop (mkF m 1 #[.val (.ref a1)] [(.ref a1)])) := fun t_ k_ => p0 t_ (by
  refine XS.aloadN X0.here hx rfl (hb hby d3_0) rfl rfl ?_
  exact k_)
 obtain ⟨T102, X102, e102, st102⟩ := initO X0 hx hZ hown (own_w hw 18 rfl) (own_w hw 19 rfl) (own_w hw 20 rfl) e0 (g := (mkF m 1 #[.val (.ref a1)] [(.ref a1)])) rfl (by rw [hml]; rfl) rfl (hb hby d3_1) (by decide) (W := 0) (by show 2 * 0 + _ ≤ _; exact Nat.le_of_eq rfl) (by decide)
 obtain ⟨fs, hr, hrun, hended, hW, hsame⟩ := X102.leave (v := none) (fun _ => rfl)
 refine ⟨_, _, (gc p101 st102) _ (X102.returnOut hx Bd.returns (hb hby d3_4) hr), hrun, hended, _, _, rfl, ?_, ⟨_, rfl⟩, hW, hsame.mono (by decide) (by decide)⟩
 show Q3 Z a1 h0 n0 _ T102.heap _
 rw [e102]
 exact ⟨rfl, N0, rfl⟩
theorem d2_0 : decode jdk_39_method_1_code 0 = .ok (.aload_n 0, 1) := by decide +kernel
theorem d2_1 : decode jdk_39_method_1_code 1 = .ok (.invokespecial 1, 3) := by decide +kernel
theorem d2_4 : decode jdk_39_method_1_code 4 = .ok (.aload_n 0, 1) := by decide +kernel
theorem d2_5 : decode jdk_39_method_1_code 5 = .ok (.iconst 0, 1) := by decide +kernel
theorem d2_6 : decode jdk_39_method_1_code 6 = .ok (.putfield 7, 3) := by decide +kernel
theorem d2_9 : decode jdk_39_method_1_code 9 = .ok (.return_, 1) := by decide +kernel
theorem pd0 : parseMethodDescriptor "()V" = some ⟨[], none⟩ := by decide +kernel
theorem pn2 : plainFor (⟨"java/util/AbstractList", "<init>", "()V"⟩ : MethodName) = true := plainFor_of_name (by first | (simp [plainName, overriddenIn]; done) | decide +kernel)
theorem ef_rm2 (m : MethodId) (a1 : Addr) : entryFrame m #[(.ref a1)] 1 = mkF m 0 #[.val (.ref a1)] [] := by first | (simp [entryFrame, mkF, argsToLocals, Value.category]; done) | rfl
def Q2 (Z : State) (a1 : Addr) (h0 : Heap) (n0 : Nat) (v : Option Value) (h : Heap) (L : List Loc) : Prop := v = none ∧ Fr n0 L ∧ (Keep h0 h [a1]) ∧ (Exa Z h a1 "java/util/ArrayList") ∧ (Fld Z h a1 "java/util/AbstractList" "modCount" "I" (.int (0 : Int32))) ∧ (Fld Z h a1 "java/util/ArrayList" "elementData" "[Ljava/lang/Object;" .null) ∧ (Fld Z h a1 "java/util/ArrayList" "size" "I" (.int (0 : Int32)))
set_option maxRecDepth 65536 in
set_option maxHeartbeats 40000000 in
theorem rm2 (l : Launch) (Z : State) (a0 : Array Value) (hw : ∀ d ∈ tables_1, d.before a0 Z = true) (ws : List Jvm.Cond) (a1 : Addr) (h0 : Heap) (n0 : Nat) (Z0 : n0 ≤ h0.size) (F0 : Exa Z h0 a1 "java/util/ArrayList") (F1 : Fld Z h0 a1 "java/util/AbstractList" "modCount" "I" (.int (0 : Int32))) (F2 : Fld Z h0 a1 "java/util/ArrayList" "elementData" "[Ljava/lang/Object;" .null) (F3 : Fld Z h0 a1 "java/util/ArrayList" "size" "I" (.int (0 : Int32))) (g1 : n0 ≤ a1) :
  MetFree l (⟨"java/util/AbstractList", "<init>", "()V"⟩ : MethodName) (head1 (Jvm.Cond.code (⟨"java/util/AbstractList", "<init>", "()V"⟩ : MethodName) jdk_39_method_1_code 1 none :: ws) ({ frames := 2, cells := 0, slots := 0, locals := 24 } : Room)) (fun a U => a = #[(.ref a1)] ∧ Z.Warmed39 U.vm ∧ U.heap = h0) (fun _ _ _ _ _ => True) (fun _ U o U' => ∃ v L, o = .returned v ∧ Q2 Z a1 h0 n0 v U'.heap L ∧ FrameEnd U o U' L ({ frames := 2, cells := 0, slots := 0, locals := 24 } : Room).cells ({ frames := 2, cells := 0, slots := 0, locals := 24 } : Room).slots) := by
 refine MetFree.of_bodySF pn2 hisR ?_
 intro p e s m args below meth c s₁ Bd hml0 hP hK
 obtain ⟨rfl, hZ, hh⟩ := hP
 have hx := Bd.exec
 have hby := Bd.bytes
 have hml : c.maxLocals = 1 := hml0
 have hown : s.vm.findClass "java/util/AbstractList" = some m.cls := findClass_of_methodNamed Bd.named
 have hnm := (name_of_methodNamed Bd.named Bd.method).1
 have X0 : Stand p l e ({ frames := 2, cells := 0, slots := 0, locals := 24 } : Room) s m #[(.ref a1)] below meth c s₁ [] 0 0 := Stand.of_body Bd
 have e0 : s₁.heap = h0 := by rw [← hh, Bd.state]; rfl
 have N0 := Fr.nil n0
 have p0 : Go p.tables e below (s₁.setTop (entryFrame m #[(.ref a1)] 1)) (s₁.setTop (mkF m 0 #[.val (.ref a1)] [])) := fun t_ k_ => castTop (ef_rm2 m a1) k_
 have p101 : Go p.tables e below _ (s₁.setTop (mkF m 1 #[.val (.ref a1)] [(.ref a1)])) := fun t_ k_ => p0 t_ (by
  refine XS.aloadN X0.here hx rfl (hb hby d2_0) rfl rfl ?_
  exact k_)
 obtain ⟨_, _, ⟨T102, L102, k102, n102⟩, -, X102, ⟨Lc102, hQ102, l102, y102, z102⟩, st102⟩ := X0.specialBack hx (y := (⟨"java/util/AbstractCollection", "<init>", "()V"⟩ : MethodName)) rfl hown (mvT hZ (own_w hw 12 rfl)) (mvT hZ (own_w hw 13 rfl)) (mvT hZ (own_w hw 17 rfl)) (by decide) (backOf (W := 0) (rm3 l Z a0 hw [] a1 h0 n0 (Nat.le_trans Z0 (Keep.refl h0 [a1]).1) ) hZ (own_w hw 17 rfl) (own_w hw 16 rfl) (by decide) (by decide)) (g := (mkF m 1 #[.val (.ref a1)] [(.ref a1)])) rfl (by rw [hml]; rfl) (Steps.refl _) (a := a1) (argsL := []) (rest := []) (lenOf pd0 rfl) rfl (by show 2 * 0 + _ ≤ _; exact Nat.le_of_eq rfl) (hb hby d2_1) (fun _ _ => ⟨rfl, e0, (by decide : 0 + 0 ≤ _), (by decide : 0 + 0 ≤ _)⟩)
 dsimp only [Pt.U, Pt.locs, Pt.cells, Pt.slots] at X102 l102 y102 z102 st102 hQ102
 subst l102 y102 z102
 obtain ⟨rfl, N102q, q102_hh⟩ := hQ102
 have N102 := Fr.app N0 N102q
 have p103 : Go p.tables e below _ (T102.setTop (mkF m 6 #[.val (.ref a1)] [(.int (0 : Int32)), (.ref a1)])) := fun t_ k_ => (gcT p101 st102) t_ (by
  refine XS.aloadN X102.here hx rfl (hb hby d2_4) rfl rfl ?_
  refine XS.iconst X102.here hx rfl (hb hby d2_5) ?_
  exact k_)
 obtain ⟨T104, h104, X104, e104, W104, st104⟩ := putF X102 hx hZ hown (host := "") (Or.inl (own_w hw 21 rfl)) Via.refl q102_hh F1 F0 (Or.inl (own_w hw 22 rfl)) (own_w hw 1 rfl) (ty := .int) (by decide) rfl rfl (g := (mkF m 6 #[.val (.ref a1)] [(.int (0 : Int32)), (.ref a1)])) rfl rfl (hb hby d2_6)
 have K105 : Keep h0 h104 [a1] := (Keep.refl h0 [a1]).wr W104 (Or.inl (List.mem_of_getElem? (i := 0) rfl))
 have N104 := Fr.snoc X104 N102 g1
 have F104 : Fld Z h104 a1 "java/util/AbstractList" "modCount" "I" (.int (0 : Int32)) := F1.same W104
 have f106 := (F0.wr W104)
 have f107 := (F2.other W104 (Or.inr (slot_ne (Or.inl (own_w hw 25 rfl)) (Or.inl (own_w hw 22 rfl)) (by decide) (t := (.array (.object "java/lang/Object"))) (t' := .int) (by decide) (by decide))))
 have f108 := (F3.other W104 (Or.inr (slot_ne (Or.inl (own_w hw 65 rfl)) (Or.inl (own_w hw 22 rfl)) (by decide) (t := .int) (t' := .int) (by decide) (by decide))))
 obtain ⟨fs, hr, hrun, hended, hW, hsame⟩ := X104.leave (v := none) (fun _ => rfl)
 refine ⟨_, _, (gc p103 st104) _ (X104.returnOut hx Bd.returns (hb hby d2_9) hr), hrun, hended, _, _, rfl, ?_, ⟨_, rfl⟩, hW, hsame.mono (by decide) (by decide)⟩
 show Q2 Z a1 h0 n0 _ T104.heap _
 rw [e104]
 exact ⟨rfl, N104, K105, f106, F104, f107, f108⟩
theorem d1_0 : decode jdk_38_method_2_code 0 = .ok (.aload_n 0, 1) := by decide +kernel
theorem d1_1 : decode jdk_38_method_2_code 1 = .ok (.invokespecial 1, 3) := by decide +kernel
theorem d1_4 : decode jdk_38_method_2_code 4 = .ok (.aload_n 0, 1) := by decide +kernel
theorem d1_5 : decode jdk_38_method_2_code 5 = .ok (.getstatic 39, 3) := by decide +kernel
theorem d1_8 : decode jdk_38_method_2_code 8 = .ok (.putfield 9, 3) := by decide +kernel
theorem d1_11 : decode jdk_38_method_2_code 11 = .ok (.return_, 1) := by decide +kernel
theorem pn1 : plainFor (⟨"java/util/ArrayList", "<init>", "()V"⟩ : MethodName) = true := plainFor_of_name (by first | (simp [plainName, overriddenIn]; done) | decide +kernel)
theorem ef_rm1 (m : MethodId) (a1 : Addr) (de : Addr) (kde : ClassId) (el : Addr) (ea : Addr) (kea : ClassId) (em : Addr) (mr : Addr) : entryFrame m #[(.ref a1)] 1 = mkF m 0 #[.val (.ref a1)] [] := by first | (simp [entryFrame, mkF, argsToLocals, Value.category]; done) | rfl
def Q1 (Z : State) (a1 : Addr) (de : Addr) (kde : ClassId) (el : Addr) (ea : Addr) (kea : ClassId) (em : Addr) (mr : Addr) (h0 : Heap) (n0 : Nat) (v : Option Value) (h : Heap) (L : List Loc) : Prop := v = none ∧ Fr n0 L ∧ (Keep h0 h [a1]) ∧ (Exa Z h a1 "java/util/ArrayList") ∧ (Fld Z h a1 "java/util/AbstractList" "modCount" "I" (.int (0 : Int32))) ∧ (Fld Z h a1 "java/util/ArrayList" "elementData" "[Ljava/lang/Object;" (.ref de)) ∧ (Fld Z h a1 "java/util/ArrayList" "size" "I" (.int (0 : Int32)))
set_option maxRecDepth 65536 in
set_option maxHeartbeats 40000000 in
theorem rm1 (l : Launch) (Z : State) (a0 : Array Value) (hw : ∀ d ∈ tables_1, d.before a0 Z = true) (ws : List Jvm.Cond) (a1 : Addr) (de : Addr) (kde : ClassId) (el : Addr) (ea : Addr) (kea : ClassId) (em : Addr) (mr : Addr) (h0 : Heap) (n0 : Nat) (Z0 : n0 ≤ h0.size) (O1 : Old Z n0 h0) (G : own_H Z de kde el ea kea em mr) (F0 : Exa Z h0 a1 "java/util/ArrayList") (F1 : Fld Z h0 a1 "java/util/AbstractList" "modCount" "I" (.int (0 : Int32))) (F2 : Fld Z h0 a1 "java/util/ArrayList" "elementData" "[Ljava/lang/Object;" .null) (F3 : Fld Z h0 a1 "java/util/ArrayList" "size" "I" (.int (0 : Int32))) (g1 : n0 ≤ a1) :
  MetFree l (⟨"java/util/ArrayList", "<init>", "()V"⟩ : MethodName) (head1 (Jvm.Cond.code (⟨"java/util/ArrayList", "<init>", "()V"⟩ : MethodName) jdk_38_method_2_code 1 none :: ws) ({ frames := 3, cells := 0, slots := 0, locals := 36 } : Room)) (fun a U => a = #[(.ref a1)] ∧ Z.Warmed39 U.vm ∧ U.heap = h0) (fun _ _ _ _ _ => True) (fun _ U o U' => ∃ v L, o = .returned v ∧ Q1 Z a1 de kde el ea kea em mr h0 n0 v U'.heap L ∧ FrameEnd U o U' L ({ frames := 3, cells := 0, slots := 0, locals := 36 } : Room).cells ({ frames := 3, cells := 0, slots := 0, locals := 36 } : Room).slots) := by
 refine MetFree.of_bodySF pn1 hisR ?_
 intro p e s m args below meth c s₁ Bd hml0 hP hK
 obtain ⟨rfl, hZ, hh⟩ := hP
 have hx := Bd.exec
 have hby := Bd.bytes
 have hml : c.maxLocals = 1 := hml0
 have hown : s.vm.findClass "java/util/ArrayList" = some m.cls := findClass_of_methodNamed Bd.named
 have hnm := (name_of_methodNamed Bd.named Bd.method).1
 have X0 : Stand p l e ({ frames := 3, cells := 0, slots := 0, locals := 36 } : Room) s m #[(.ref a1)] below meth c s₁ [] 0 0 := Stand.of_body Bd
 have e0 : s₁.heap = h0 := by rw [← hh, Bd.state]; rfl
 have N0 := Fr.nil n0
 have p0 : Go p.tables e below (s₁.setTop (entryFrame m #[(.ref a1)] 1)) (s₁.setTop (mkF m 0 #[.val (.ref a1)] [])) := fun t_ k_ => castTop (ef_rm1 m a1 de kde el ea kea em mr) k_
 have p101 : Go p.tables e below _ (s₁.setTop (mkF m 1 #[.val (.ref a1)] [(.ref a1)])) := fun t_ k_ => p0 t_ (by
  refine XS.aloadN X0.here hx rfl (hb hby d1_0) rfl rfl ?_
  exact k_)
 obtain ⟨_, _, ⟨T102, L102, k102, n102⟩, -, X102, ⟨Lc102, hQ102, l102, y102, z102⟩, st102⟩ := X0.specialBack hx (y := (⟨"java/util/AbstractList", "<init>", "()V"⟩ : MethodName)) rfl hown (mvT hZ (own_w hw 6 rfl)) (mvT hZ (own_w hw 7 rfl)) (mvT hZ (own_w hw 11 rfl)) (by decide) (backOf (W := 0) (rm2 l Z a0 hw [] a1 h0 n0 (Nat.le_trans Z0 (Keep.refl h0 [a1]).1) F0 F1 F2 F3 g1) hZ (own_w hw 11 rfl) (own_w hw 10 rfl) (by decide) (by decide)) (g := (mkF m 1 #[.val (.ref a1)] [(.ref a1)])) rfl (by rw [hml]; rfl) (Steps.refl _) (a := a1) (argsL := []) (rest := []) (lenOf pd0 rfl) rfl (by show 2 * 0 + _ ≤ _; exact Nat.le_of_eq rfl) (hb hby d1_1) (fun _ _ => ⟨rfl, e0, (by decide : 0 + 0 ≤ _), (by decide : 0 + 0 ≤ _)⟩)
 dsimp only [Pt.U, Pt.locs, Pt.cells, Pt.slots] at X102 l102 y102 z102 st102 hQ102
 subst l102 y102 z102
 obtain ⟨rfl, N102q, q102_K, q102_F0, q102_F1, q102_F2, q102_F3⟩ := hQ102
 have N102 := Fr.app N0 N102q
 have K103 : Keep h0 T102.heap [a1] := (Keep.refl h0 [a1]).trans q102_K (allS (Or.inl (List.mem_of_getElem? (i := 0) rfl)) all0)
 have f104 := (O1.keep q102_K (allS g1 all0))
 have p105 : Go p.tables e below _ (T102.setTop (mkF m 5 #[.val (.ref a1)] [(.ref a1)])) := fun t_ k_ => (gcT p101 st102) t_ (by
  refine XS.aloadN X102.here hx rfl (hb hby d1_4) rfl rfl ?_
  exact k_)
 obtain ⟨T106, X106, e106, st106⟩ := getS2 X102 hx hZ hown (host := "") (Or.inl (own_w hw 23 rfl)) Via.refl rfl (G.1.ext f104.2) (g := (mkF m 5 #[.val (.ref a1)] [(.ref a1)])) rfl (hb hby d1_5)
 obtain ⟨T107, h107, X107, e107, W107, st107⟩ := putF X106 hx hZ hown (host := "") (Or.inl (own_w hw 24 rfl)) Via.refl e106 q102_F2 q102_F0 (Or.inl (own_w hw 25 rfl)) (own_w hw 1 rfl) (ty := (.array (.object "java/lang/Object"))) (by decide) rfl rfl (g := (mkF m 8 #[.val (.ref a1)] [(.ref de), (.ref a1)])) rfl rfl (hb hby d1_8)
 have K108 : Keep h0 h107 [a1] := K103.wr W107 (Or.inl (List.mem_of_getElem? (i := 0) rfl))
 have N107 := Fr.snoc X107 N102 g1
 have F107 : Fld Z h107 a1 "java/util/ArrayList" "elementData" "[Ljava/lang/Object;" (.ref de) := q102_F2.same W107
 have f109 := (q102_F0.wr W107)
 have f110 := (q102_F1.other W107 (Or.inr (slot_ne (Or.inl (own_w hw 22 rfl)) (Or.inl (own_w hw 25 rfl)) (by decide) (t := .int) (t' := (.array (.object "java/lang/Object"))) (by decide) (by decide))))
 have f111 := (q102_F3.other W107 (Or.inr (slot_ne (Or.inl (own_w hw 65 rfl)) (Or.inl (own_w hw 25 rfl)) (by decide) (t := .int) (t' := (.array (.object "java/lang/Object"))) (by decide) (by decide))))
 obtain ⟨fs, hr, hrun, hended, hW, hsame⟩ := X107.leave (v := none) (fun _ => rfl)
 refine ⟨_, _, (gc (gc p105 st106) st107) _ (X107.returnOut hx Bd.returns (hb hby d1_11) hr), hrun, hended, _, _, rfl, ?_, ⟨_, rfl⟩, hW, hsame.mono (by decide) (by decide)⟩
 show Q1 Z a1 de kde el ea kea em mr h0 n0 _ T107.heap _
 rw [e107]
 exact ⟨rfl, N107, K108, f109, f110, F107, f111⟩
theorem d10_0 : decode jdk_29_method_65_code 0 = .ok (.iload_n 0, 1) := by decide +kernel
theorem d10_1 : decode jdk_29_method_65_code 1 = .ok (.iload_n 1, 1) := by decide +kernel
theorem d10_2 : decode jdk_29_method_65_code 2 = .ok (.if_icmp .lt 7, 3) := by decide +kernel
theorem d10_5 : decode jdk_29_method_65_code 5 = .ok (.iload_n 0, 1) := by decide +kernel
theorem d10_6 : decode jdk_29_method_65_code 6 = .ok (.goto 4, 3) := by decide +kernel
theorem d10_10 : decode jdk_29_method_65_code 10 = .ok (.ireturn, 1) := by decide +kernel
theorem pn10 : plainFor (⟨"java/lang/Math", "max", "(II)I"⟩ : MethodName) = true := by decide +kernel
theorem ef_rm10 (m : MethodId)  : entryFrame m #[(.int (10 : Int32)), (.int (1 : Int32))] 2 = mkF m 0 #[.val (.int (10 : Int32)), .val (.int (1 : Int32))] [] := by first | (simp [entryFrame, mkF, argsToLocals, Value.category]; done) | rfl
def Q10 (Z : State)  (h0 : Heap) (n0 : Nat) (v : Option Value) (h : Heap) (L : List Loc) : Prop := v = some (.int (10 : Int32)) ∧ Fr n0 L ∧ (h = h0)
set_option maxRecDepth 65536 in
set_option maxHeartbeats 40000000 in
theorem rm10 (l : Launch) (Z : State) (a0 : Array Value) (hw : ∀ d ∈ tables_1, d.before a0 Z = true) (ws : List Jvm.Cond)  (h0 : Heap) (n0 : Nat) (Z0 : n0 ≤ h0.size) :
  MetFree l (⟨"java/lang/Math", "max", "(II)I"⟩ : MethodName) (head1 (Jvm.Cond.code (⟨"java/lang/Math", "max", "(II)I"⟩ : MethodName) jdk_29_method_65_code 2 (some .int) :: ws) ({ frames := 0, cells := 0, slots := 0, locals := 0 } : Room)) (fun a U => a = #[(.int (10 : Int32)), (.int (1 : Int32))] ∧ Z.Warmed39 U.vm ∧ U.heap = h0) (fun _ _ _ _ _ => True) (fun _ U o U' => ∃ v L, o = .returned v ∧ Q10 Z  h0 n0 v U'.heap L ∧ FrameEnd U o U' L ({ frames := 0, cells := 0, slots := 0, locals := 0 } : Room).cells ({ frames := 0, cells := 0, slots := 0, locals := 0 } : Room).slots) := by
 refine MetFree.of_bodySF pn10 hisR ?_
 intro p e s m args below meth c s₁ Bd hml0 hP hK
 obtain ⟨rfl, hZ, hh⟩ := hP
 have hx := Bd.exec
 have hby := Bd.bytes
 have hml : c.maxLocals = 2 := hml0
 have hown : s.vm.findClass "java/lang/Math" = some m.cls := findClass_of_methodNamed Bd.named
 have hnm := (name_of_methodNamed Bd.named Bd.method).1
 have X0 : Stand p l e ({ frames := 0, cells := 0, slots := 0, locals := 0 } : Room) s m #[(.int (10 : Int32)), (.int (1 : Int32))] below meth c s₁ [] 0 0 := Stand.of_body Bd
 have e0 : s₁.heap = h0 := by rw [← hh, Bd.state]; rfl
 have N0 := Fr.nil n0
 have p0 : Go p.tables e below (s₁.setTop (entryFrame m #[(.int (10 : Int32)), (.int (1 : Int32))] 2)) (s₁.setTop (mkF m 0 #[.val (.int (10 : Int32)), .val (.int (1 : Int32))] [])) := fun t_ k_ => castTop (ef_rm10 m ) k_
 have p101 : Go p.tables e below _ (s₁.setTop (mkF m 10 #[.val (.int (10 : Int32)), .val (.int (1 : Int32))] [(.int (10 : Int32))])) := fun t_ k_ => p0 t_ (by
  refine XS.iloadN X0.here hx rfl (hb hby d10_0) rfl ?_
  refine XS.iloadN X0.here hx rfl (hb hby d10_1) rfl ?_
  refine XS.icmpNo X0.here hx rfl (hb hby d10_2) rfl (flt (by decide : ¬ ((10 : Int32) < (1 : Int32)))).1 ?_
  refine XS.iloadN X0.here hx rfl (hb hby d10_5) rfl ?_
  refine XS.goto X0.here hx rfl (pc0 := 6) (pc' := 10) rfl (hb hby d10_6) (by decide) (by decide) ?_
  exact k_)
 obtain ⟨fs, hr, hrun, hended, hW, hsame⟩ := X0.leave (v := some (.int (10 : Int32))) (fun h => by rw [Bd.returns] at h; cases h)
 refine ⟨_, _, p101 _ (retI X0 hx Bd.returns (hb hby d10_10) hr), hrun, hended, _, _, rfl, ?_, ⟨_, rfl⟩, hW, hsame.mono (by decide) (by decide)⟩
 show Q10 Z  h0 n0 _ s₁.heap _
 rw [e0]
 exact ⟨rfl, N0, rfl⟩
theorem d18_0 : decode jdk_29_method_69_code 0 = .ok (.iload_n 0, 1) := by decide +kernel
theorem d18_1 : decode jdk_29_method_69_code 1 = .ok (.iload_n 1, 1) := by decide +kernel
theorem d18_2 : decode jdk_29_method_69_code 2 = .ok (.if_icmp .gt 7, 3) := by decide +kernel
theorem d18_9 : decode jdk_29_method_69_code 9 = .ok (.iload_n 1, 1) := by decide +kernel
theorem d18_10 : decode jdk_29_method_69_code 10 = .ok (.ireturn, 1) := by decide +kernel
theorem pn18 : plainFor (⟨"java/lang/Math", "min", "(II)I"⟩ : MethodName) = true := by decide +kernel
theorem ef_rm18 (m : MethodId)  : entryFrame m #[(.int (10 : Int32)), (.int (2 : Int32))] 2 = mkF m 0 #[.val (.int (10 : Int32)), .val (.int (2 : Int32))] [] := by first | (simp [entryFrame, mkF, argsToLocals, Value.category]; done) | rfl
def Q18 (Z : State)  (h0 : Heap) (n0 : Nat) (v : Option Value) (h : Heap) (L : List Loc) : Prop := v = some (.int (2 : Int32)) ∧ Fr n0 L ∧ (h = h0)
set_option maxRecDepth 65536 in
set_option maxHeartbeats 40000000 in
theorem rm18 (l : Launch) (Z : State) (a0 : Array Value) (hw : ∀ d ∈ tables_1, d.before a0 Z = true) (ws : List Jvm.Cond)  (h0 : Heap) (n0 : Nat) (Z0 : n0 ≤ h0.size) :
  MetFree l (⟨"java/lang/Math", "min", "(II)I"⟩ : MethodName) (head1 (Jvm.Cond.code (⟨"java/lang/Math", "min", "(II)I"⟩ : MethodName) jdk_29_method_69_code 2 (some .int) :: ws) ({ frames := 0, cells := 0, slots := 0, locals := 0 } : Room)) (fun a U => a = #[(.int (10 : Int32)), (.int (2 : Int32))] ∧ Z.Warmed39 U.vm ∧ U.heap = h0) (fun _ _ _ _ _ => True) (fun _ U o U' => ∃ v L, o = .returned v ∧ Q18 Z  h0 n0 v U'.heap L ∧ FrameEnd U o U' L ({ frames := 0, cells := 0, slots := 0, locals := 0 } : Room).cells ({ frames := 0, cells := 0, slots := 0, locals := 0 } : Room).slots) := by
 refine MetFree.of_bodySF pn18 hisR ?_
 intro p e s m args below meth c s₁ Bd hml0 hP hK
 obtain ⟨rfl, hZ, hh⟩ := hP
 have hx := Bd.exec
 have hby := Bd.bytes
 have hml : c.maxLocals = 2 := hml0
 have hown : s.vm.findClass "java/lang/Math" = some m.cls := findClass_of_methodNamed Bd.named
 have hnm := (name_of_methodNamed Bd.named Bd.method).1
 have X0 : Stand p l e ({ frames := 0, cells := 0, slots := 0, locals := 0 } : Room) s m #[(.int (10 : Int32)), (.int (2 : Int32))] below meth c s₁ [] 0 0 := Stand.of_body Bd
 have e0 : s₁.heap = h0 := by rw [← hh, Bd.state]; rfl
 have N0 := Fr.nil n0
 have p0 : Go p.tables e below (s₁.setTop (entryFrame m #[(.int (10 : Int32)), (.int (2 : Int32))] 2)) (s₁.setTop (mkF m 0 #[.val (.int (10 : Int32)), .val (.int (2 : Int32))] [])) := fun t_ k_ => castTop (ef_rm18 m ) k_
 have p101 : Go p.tables e below _ (s₁.setTop (mkF m 10 #[.val (.int (10 : Int32)), .val (.int (2 : Int32))] [(.int (2 : Int32))])) := fun t_ k_ => p0 t_ (by
  refine XS.iloadN X0.here hx rfl (hb hby d18_0) rfl ?_
  refine XS.iloadN X0.here hx rfl (hb hby d18_1) rfl ?_
  refine XS.icmpYes X0.here hx rfl (pc0 := 2) (pc' := 9) rfl (hb hby d18_2) rfl (tlt (by decide : ((2 : Int32) < (10 : Int32)))).2.2.1 (by decide) (by decide) ?_
  refine XS.iloadN X0.here hx rfl (hb hby d18_9) rfl ?_
  exact k_)
 obtain ⟨fs, hr, hrun, hended, hW, hsame⟩ := X0.leave (v := some (.int (2 : Int32))) (fun h => by rw [Bd.returns] at h; cases h)
 refine ⟨_, _, p101 _ (retI X0 hx Bd.returns (hb hby d18_10) hr), hrun, hended, _, _, rfl, ?_, ⟨_, rfl⟩, hW, hsame.mono (by decide) (by decide)⟩
 show Q18 Z  h0 n0 _ s₁.heap _
 rw [e0]
 exact ⟨rfl, N0, rfl⟩
theorem d9_0 : decode jdk_38_method_6_code 0 = .ok (.aload_n 0, 1) := by decide +kernel
theorem d9_1 : decode jdk_38_method_6_code 1 = .ok (.getfield 9, 3) := by decide +kernel
theorem d9_4 : decode jdk_38_method_6_code 4 = .ok (.arraylength, 1) := by decide +kernel
theorem d9_5 : decode jdk_38_method_6_code 5 = .ok (.istore_n 2, 1) := by decide +kernel
theorem d9_6 : decode jdk_38_method_6_code 6 = .ok (.iload_n 2, 1) := by decide +kernel
theorem d9_7 : decode jdk_38_method_6_code 7 = .ok (.ifCond .gt 13, 3) := by decide +kernel
theorem d9_10 : decode jdk_38_method_6_code 10 = .ok (.aload_n 0, 1) := by decide +kernel
theorem d9_11 : decode jdk_38_method_6_code 11 = .ok (.getfield 9, 3) := by decide +kernel
theorem d9_14 : decode jdk_38_method_6_code 14 = .ok (.getstatic 39, 3) := by decide +kernel
theorem d9_17 : decode jdk_38_method_6_code 17 = .ok (.if_acmp .eq 28, 3) := by decide +kernel
theorem d9_45 : decode jdk_38_method_6_code 45 = .ok (.aload_n 0, 1) := by decide +kernel
theorem d9_46 : decode jdk_38_method_6_code 46 = .ok (.bipush 10, 2) := by decide +kernel
theorem d9_48 : decode jdk_38_method_6_code 48 = .ok (.iload_n 1, 1) := by decide +kernel
theorem d9_49 : decode jdk_38_method_6_code 49 = .ok (.invokestatic 79, 3) := by decide +kernel
theorem d9_52 : decode jdk_38_method_6_code 52 = .ok (.anewarray 7, 3) := by decide +kernel
theorem d9_55 : decode jdk_38_method_6_code 55 = .ok (.dup_x1, 1) := by decide +kernel
theorem d9_56 : decode jdk_38_method_6_code 56 = .ok (.putfield 9, 3) := by decide +kernel
theorem d9_59 : decode jdk_38_method_6_code 59 = .ok (.areturn, 1) := by decide +kernel
theorem pd1 : parseMethodDescriptor "(II)I" = some ⟨[.int, .int], some .int⟩ := by decide +kernel
theorem pn9 : plainFor (⟨"java/util/ArrayList", "grow", "(I)[Ljava/lang/Object;"⟩ : MethodName) = true := plainFor_of_name (by first | (simp [plainName, overriddenIn]; done) | decide +kernel)
theorem ef_rm9 (m : MethodId) (a1 : Addr) (mc : Int32) (de : Addr) (kde : ClassId) (el : Addr) (ea : Addr) (kea : ClassId) (em : Addr) (mr : Addr) : entryFrame m #[(.ref a1), (.int (1 : Int32))] 4 = mkF m 0 #[.val (.ref a1), .val (.int (1 : Int32)), .unset, .unset] [] := by first | (simp [entryFrame, mkF, argsToLocals, Value.category]; done) | rfl
def Q9 (Z : State) (a1 : Addr) (mc : Int32) (de : Addr) (kde : ClassId) (el : Addr) (ea : Addr) (kea : ClassId) (em : Addr) (mr : Addr) (h0 : Heap) (n0 : Nat) (v : Option Value) (h : Heap) (L : List Loc) : Prop := ∃ (b : Addr) (kb : ClassId), v = some (.ref b) ∧ Fr n0 L ∧ (Keep h0 h [a1]) ∧ (Exa Z h a1 "java/util/ArrayList") ∧ (Fld Z h a1 "java/util/AbstractList" "modCount" "I" (.int mc)) ∧ (Fld Z h a1 "java/util/ArrayList" "elementData" "[Ljava/lang/Object;" (.ref b)) ∧ (Fld Z h a1 "java/util/ArrayList" "size" "I" (.int (0 : Int32))) ∧ (Arv Z h b kb (.object "java/lang/Object") (10 : Int32) [.null, .null, .null, .null, .null, .null, .null, .null, .null, .null] .null) ∧ (Exa Z h b "[Ljava/lang/Object;") ∧ (n0 ≤ b) ∧ (h0.size ≤ b) ∧ (a1 ≠ b) ∧ (Ovr Z kb "java/lang/Object")
set_option maxRecDepth 65536 in
set_option maxHeartbeats 40000000 in
theorem rm9 (l : Launch) (Z : State) (a0 : Array Value) (hw : ∀ d ∈ tables_1, d.before a0 Z = true) (ws : List Jvm.Cond) (a1 : Addr) (mc : Int32) (de : Addr) (kde : ClassId) (el : Addr) (ea : Addr) (kea : ClassId) (em : Addr) (mr : Addr) (h0 : Heap) (n0 : Nat) (Z0 : n0 ≤ h0.size) (O1 : Old Z n0 h0) (G : own_H Z de kde el ea kea em mr) (F0 : Exa Z h0 a1 "java/util/ArrayList") (F1 : Fld Z h0 a1 "java/util/AbstractList" "modCount" "I" (.int mc)) (F2 : Fld Z h0 a1 "java/util/ArrayList" "elementData" "[Ljava/lang/Object;" (.ref de)) (F3 : Fld Z h0 a1 "java/util/ArrayList" "size" "I" (.int (0 : Int32))) (g1 : n0 ≤ a1) :
  MetFree l (⟨"java/util/ArrayList", "grow", "(I)[Ljava/lang/Object;"⟩ : MethodName) (head1 (Jvm.Cond.code (⟨"java/util/ArrayList", "grow", "(I)[Ljava/lang/Object;"⟩ : MethodName) jdk_38_method_6_code 4 (some (.array (.object "java/lang/Object"))) :: ws) ({ frames := 1, cells := 1, slots := 10, locals := 14 } : Room)) (fun a U => a = #[(.ref a1), (.int (1 : Int32))] ∧ Z.Warmed39 U.vm ∧ U.heap = h0) (fun _ _ _ _ _ => True) (fun _ U o U' => ∃ v L, o = .returned v ∧ Q9 Z a1 mc de kde el ea kea em mr h0 n0 v U'.heap L ∧ FrameEnd U o U' L ({ frames := 1, cells := 1, slots := 10, locals := 14 } : Room).cells ({ frames := 1, cells := 1, slots := 10, locals := 14 } : Room).slots) := by
 refine MetFree.of_bodySF pn9 hisR ?_
 intro p e s m args below meth c s₁ Bd hml0 hP hK
 obtain ⟨rfl, hZ, hh⟩ := hP
 have hx := Bd.exec
 have hby := Bd.bytes
 have hml : c.maxLocals = 4 := hml0
 have hown : s.vm.findClass "java/util/ArrayList" = some m.cls := findClass_of_methodNamed Bd.named
 have hnm := (name_of_methodNamed Bd.named Bd.method).1
 have X0 : Stand p l e ({ frames := 1, cells := 1, slots := 10, locals := 14 } : Room) s m #[(.ref a1), (.int (1 : Int32))] below meth c s₁ [] 0 0 := Stand.of_body Bd
 have e0 : s₁.heap = h0 := by rw [← hh, Bd.state]; rfl
 have N0 := Fr.nil n0
 have p0 : Go p.tables e below (s₁.setTop (entryFrame m #[(.ref a1), (.int (1 : Int32))] 4)) (s₁.setTop (mkF m 0 #[.val (.ref a1), .val (.int (1 : Int32)), .unset, .unset] [])) := fun t_ k_ => castTop (ef_rm9 m a1 mc de kde el ea kea em mr) k_
 have p101 : Go p.tables e below _ (s₁.setTop (mkF m 1 #[.val (.ref a1), .val (.int (1 : Int32)), .unset, .unset] [(.ref a1)])) := fun t_ k_ => p0 t_ (by
  refine XS.aloadN X0.here hx rfl (hb hby d9_0) rfl rfl ?_
  exact k_)
 obtain ⟨T102, X102, e102, st102⟩ := getF X0 hx hZ hown (host := "") (Or.inl (own_w hw 24 rfl)) Via.refl e0 F2 (g := (mkF m 1 #[.val (.ref a1), .val (.int (1 : Int32)), .unset, .unset] [(.ref a1)])) rfl rfl (hb hby d9_1)
 obtain ⟨cl103, Ar103, -, S103, Ng103, -, -⟩ := id (G.2.2.1.ext O1.2)
 have p104 : Go p.tables e below _ (T102.setTop (mkF m 11 #[.val (.ref a1), .val (.int (1 : Int32)), .val (.int (0 : Int32)), .unset] [(.ref a1)])) := fun t_ k_ => (gc p101 st102) t_ (by
  refine X102.arraylength hx (by rw [e102]; exact Ar103.1) (State.isArrayOf_alike hZ.alike Ar103.2.1) (g := (mkF m 4 #[.val (.ref a1), .val (.int (1 : Int32)), .unset, .unset] [(.ref de)])) rfl rfl (hb hby d9_4) _ ?_
  rw [len_of S103 Ng103]
  show Steps p.tables e below (T102.setTop (mkF m 5 #[.val (.ref a1), .val (.int (1 : Int32)), .unset, .unset] [(.int (0 : Int32))])) _
  refine XS.istoreN X102.here hx rfl (hb hby d9_5) rfl (l' := #[.val (.ref a1), .val (.int (1 : Int32)), .val (.int (0 : Int32)), .unset]) rfl ?_
  refine XS.iloadN X102.here hx rfl (hb hby d9_6) rfl ?_
  refine XS.ifNo X102.here hx rfl (hb hby d9_7) rfl ((if0 _ _).trans (flt (by decide : ¬ ((0 : Int32) < (0 : Int32)))).2.2.1) ?_
  refine XS.aloadN X102.here hx rfl (hb hby d9_10) rfl rfl ?_
  exact k_)
 obtain ⟨T105, X105, e105, st105⟩ := getF X102 hx hZ hown (host := "") (Or.inl (own_w hw 24 rfl)) Via.refl e102 F2 (g := (mkF m 11 #[.val (.ref a1), .val (.int (1 : Int32)), .val (.int (0 : Int32)), .unset] [(.ref a1)])) rfl rfl (hb hby d9_11)
 obtain ⟨T106, X106, e106, st106⟩ := getS2 X105 hx hZ hown (host := "") (Or.inl (own_w hw 23 rfl)) Via.refl e105 (G.1.ext O1.2) (g := (mkF m 14 #[.val (.ref a1), .val (.int (1 : Int32)), .val (.int (0 : Int32)), .unset] [(.ref de)])) rfl (hb hby d9_14)
 have p107 : Go p.tables e below _ (T106.setTop (mkF m 49 #[.val (.ref a1), .val (.int (1 : Int32)), .val (.int (0 : Int32)), .unset] [(.int (1 : Int32)), (.int (10 : Int32)), (.ref a1)])) := fun t_ k_ => (gc (gc p104 st105) st106) t_ (by
  refine Jvm.RoadKit.acmp (g := (mkF m 17 #[.val (.ref a1), .val (.int (1 : Int32)), .val (.int (0 : Int32)), .unset] [(.ref de), (.ref de)])) X106 hx rfl rfl rfl (pc0 := 17) (pc' := 45) (same := true) rfl (hb hby d9_17) rfl (decide_eq_true rfl) (by decide) (by decide) ?_
  refine XS.aloadN X106.here hx rfl (hb hby d9_45) rfl rfl ?_
  refine XS.bipush X106.here hx rfl (hb hby d9_46) ?_
  refine XS.iloadN X106.here hx rfl (hb hby d9_48) rfl ?_
  exact k_)
 obtain ⟨_, _, ⟨T108, L108, k108, n108⟩, -, X108, ⟨Lc108, hQ108, l108, y108, z108⟩, st108⟩ := Jvm.LawKit.callS X106 hx (y := (⟨"java/lang/Math", "max", "(II)I"⟩ : MethodName)) hown (mvT hZ (own_w hw 81 rfl)) (mvT hZ (own_w hw 82 rfl)) (mvT hZ (own_w hw 83 rfl)) (mvT hZ (own_w hw 84 rfl)) (by decide) (backOf (W := 1) (rm10 l Z a0 hw []  h0 n0 (Nat.le_trans Z0 (Keep.refl h0 [a1]).1) ) hZ (own_w hw 84 rfl) (own_w hw 83 rfl) (by decide) (by decide)) (g := (mkF m 49 #[.val (.ref a1), .val (.int (1 : Int32)), .val (.int (0 : Int32)), .unset] [(.int (1 : Int32)), (.int (10 : Int32)), (.ref a1)])) rfl (by rw [hml]; rfl) (argsL := [(.int (10 : Int32)), (.int (1 : Int32))]) (rest := [(.ref a1)]) (lenOf pd1 rfl) rfl (by show 2 * 0 + _ ≤ _; exact Nat.le_of_eq rfl) (hb hby d9_49) (fun _ _ => ⟨rfl, e106, (by decide : 0 + 0 ≤ _), (by decide : 0 + 0 ≤ _)⟩)
 dsimp only [Pt.U, Pt.locs, Pt.cells, Pt.slots] at X108 l108 y108 z108 st108 hQ108
 subst l108 y108 z108
 obtain ⟨rfl, N108q, q108_hh⟩ := hQ108
 have N108 := Fr.app N0 N108q
 obtain ⟨T109, h109, k109, X109, e109, E109, A109, AE109, O109, st109⟩ := newRE X108 hx hZ hown (own_w hw 85 rfl) (own_w hw 86 rfl) q108_hh (g := (mkF m 52 #[.val (.ref a1), .val (.int (1 : Int32)), .val (.int (0 : Int32)), .unset] [(.int (10 : Int32)), (.ref a1)])) rfl (hb hby d9_52) rfl (by decide) (cap := 10) (by decide) (by decide) (by decide) (by decide) (ad := "[Ljava/lang/Object;") (by decide)
 obtain ⟨b109, g109⟩ : ∃ z, z = h0.size := ⟨_, rfl⟩
 rw [← g109] at A109 AE109 st109
 have ne_a1_b109 : a1 ≠ b109 := Nat.ne_of_lt (Nat.lt_of_lt_of_le F0.lt (Nat.le_of_eq g109.symm))
 have ge_b109 : n0 ≤ b109 := Nat.le_trans (Nat.le_trans Z0 (Keep.refl h0 [a1]).1) (Nat.le_of_eq g109.symm)
 have sz_b109 : h0.size ≤ b109 := Nat.le_trans (Keep.refl h0 [a1]).1 (Nat.le_of_eq g109.symm)
 have K110 : Keep h0 h109 [a1] := (Keep.refl h0 [a1]).ext E109
 have V109 : Arv Z h109 b109 k109 (.object "java/lang/Object") (10 : Int32) [.null, .null, .null, .null, .null, .null, .null, .null, .null, .null] .null := (Arv.new A109 (by decide)).pad (pad_rep [] .null 10)
 have p111 : Go p.tables e below _ (T109.setTop (mkF m 56 #[.val (.ref a1), .val (.int (1 : Int32)), .val (.int (0 : Int32)), .unset] [(.ref b109), (.ref a1), (.ref b109)])) := fun t_ k_ => (gc (gc p107 st108) st109) t_ (by
  refine XS.dupX1 X109.here hx rfl (hb hby d9_55) rfl rfl rfl ?_
  exact k_)
 have f112 := (F2.ext E109)
 have f113 := (F0.ext E109)
 obtain ⟨T114, h114, X114, e114, W114, st114⟩ := putF X109 hx hZ hown (host := "") (Or.inl (own_w hw 24 rfl)) Via.refl e109 f112 f113 (Or.inl (own_w hw 25 rfl)) (own_w hw 1 rfl) (ty := (.array (.object "java/lang/Object"))) (by decide) rfl rfl (g := (mkF m 56 #[.val (.ref a1), .val (.int (1 : Int32)), .val (.int (0 : Int32)), .unset] [(.ref b109), (.ref a1), (.ref b109)])) rfl rfl (hb hby d9_56)
 have K115 : Keep h0 h114 [a1] := K110.wr W114 (Or.inl (List.mem_of_getElem? (i := 0) rfl))
 have N114 := Fr.snoc X114 N108 g1
 have F114 : Fld Z h114 a1 "java/util/ArrayList" "elementData" "[Ljava/lang/Object;" (.ref b109) := f112.same W114
 have f116 := (f113.wr W114)
 have f117 := ((F1.ext E109).other W114 (Or.inr (slot_ne (Or.inl (own_w hw 22 rfl)) (Or.inl (own_w hw 25 rfl)) (by decide) (t := .int) (t' := (.array (.object "java/lang/Object"))) (by decide) (by decide))))
 have f118 := ((F3.ext E109).other W114 (Or.inr (slot_ne (Or.inl (own_w hw 65 rfl)) (Or.inl (own_w hw 25 rfl)) (by decide) (t := .int) (t' := (.array (.object "java/lang/Object"))) (by decide) (by decide))))
 have f119 := (V109.other W114 (Ne.symm ne_a1_b109))
 have f120 := (AE109.wr W114)
 obtain ⟨fs, hr, hrun, hended, hW, hsame⟩ := X114.leave (v := some (.ref b109)) (fun h => by rw [Bd.returns] at h; cases h)
 refine ⟨_, _, (gc p111 st114) _ (retOut X114 hx (w := (.ref b109)) (i := .areturn) Bd.returns rfl (Or.inr (Or.inr (Or.inr (Or.inr ⟨rfl, rfl, rfl⟩)))) (hb hby d9_59) hr), hrun, hended, _, _, rfl, ?_, ⟨_, rfl⟩, hW, hsame.mono (by decide) (by decide)⟩
 show Q9 Z a1 mc de kde el ea kea em mr h0 n0 _ T114.heap _
 rw [e114]
 exact ⟨b109, k109, rfl, N114, K115, f116, f117, F114, f118, f119, f120, ge_b109, sz_b109, ne_a1_b109, O109⟩
theorem d8_0 : decode jdk_38_method_7_code 0 = .ok (.aload_n 0, 1) := by decide +kernel
theorem d8_1 : decode jdk_38_method_7_code 1 = .ok (.aload_n 0, 1) := by decide +kernel
theorem d8_2 : decode jdk_38_method_7_code 2 = .ok (.getfield 48, 3) := by decide +kernel
theorem d8_5 : decode jdk_38_method_7_code 5 = .ok (.iconst 1, 1) := by decide +kernel
theorem d8_6 : decode jdk_38_method_7_code 6 = .ok (.iadd, 1) := by decide +kernel
theorem d8_7 : decode jdk_38_method_7_code 7 = .ok (.invokevirtual 69, 3) := by decide +kernel
theorem d8_10 : decode jdk_38_method_7_code 10 = .ok (.areturn, 1) := by decide +kernel
theorem pd2 : parseMethodDescriptor "(I)[Ljava/lang/Object;" = some ⟨[.int], some (.array (.object "java/lang/Object"))⟩ := by decide +kernel
theorem pn8 : plainFor (⟨"java/util/ArrayList", "grow", "()[Ljava/lang/Object;"⟩ : MethodName) = true := plainFor_of_name (by first | (simp [plainName, overriddenIn]; done) | decide +kernel)
theorem ef_rm8 (m : MethodId) (a1 : Addr) (mc : Int32) (de : Addr) (kde : ClassId) (el : Addr) (ea : Addr) (kea : ClassId) (em : Addr) (mr : Addr) : entryFrame m #[(.ref a1)] 1 = mkF m 0 #[.val (.ref a1)] [] := by first | (simp [entryFrame, mkF, argsToLocals, Value.category]; done) | rfl
def Q8 (Z : State) (a1 : Addr) (mc : Int32) (de : Addr) (kde : ClassId) (el : Addr) (ea : Addr) (kea : ClassId) (em : Addr) (mr : Addr) (h0 : Heap) (n0 : Nat) (v : Option Value) (h : Heap) (L : List Loc) : Prop := ∃ (b : Addr) (kb : ClassId), v = some (.ref b) ∧ Fr n0 L ∧ (Keep h0 h [a1]) ∧ (Exa Z h a1 "java/util/ArrayList") ∧ (Fld Z h a1 "java/util/AbstractList" "modCount" "I" (.int mc)) ∧ (Fld Z h a1 "java/util/ArrayList" "elementData" "[Ljava/lang/Object;" (.ref b)) ∧ (Fld Z h a1 "java/util/ArrayList" "size" "I" (.int (0 : Int32))) ∧ (Arv Z h b kb (.object "java/lang/Object") (10 : Int32) [.null, .null, .null, .null, .null, .null, .null, .null, .null, .null] .null) ∧ (Exa Z h b "[Ljava/lang/Object;") ∧ (n0 ≤ b) ∧ (h0.size ≤ b) ∧ (a1 ≠ b) ∧ (Ovr Z kb "java/lang/Object")
set_option maxRecDepth 65536 in
set_option maxHeartbeats 40000000 in
theorem rm8 (l : Launch) (Z : State) (a0 : Array Value) (hw : ∀ d ∈ tables_1, d.before a0 Z = true) (ws : List Jvm.Cond) (a1 : Addr) (mc : Int32) (de : Addr) (kde : ClassId) (el : Addr) (ea : Addr) (kea : ClassId) (em : Addr) (mr : Addr) (h0 : Heap) (n0 : Nat) (Z0 : n0 ≤ h0.size) (O1 : Old Z n0 h0) (G : own_H Z de kde el ea kea em mr) (F0 : Exa Z h0 a1 "java/util/ArrayList") (F1 : Fld Z h0 a1 "java/util/AbstractList" "modCount" "I" (.int mc)) (F2 : Fld Z h0 a1 "java/util/ArrayList" "elementData" "[Ljava/lang/Object;" (.ref de)) (F3 : Fld Z h0 a1 "java/util/ArrayList" "size" "I" (.int (0 : Int32))) (g1 : n0 ≤ a1) :
  MetFree l (⟨"java/util/ArrayList", "grow", "()[Ljava/lang/Object;"⟩ : MethodName) (head1 (Jvm.Cond.code (⟨"java/util/ArrayList", "grow", "()[Ljava/lang/Object;"⟩ : MethodName) jdk_38_method_7_code 1 (some (.array (.object "java/lang/Object"))) :: ws) ({ frames := 2, cells := 1, slots := 10, locals := 29 } : Room)) (fun a U => a = #[(.ref a1)] ∧ Z.Warmed39 U.vm ∧ U.heap = h0) (fun _ _ _ _ _ => True) (fun _ U o U' => ∃ v L, o = .returned v ∧ Q8 Z a1 mc de kde el ea kea em mr h0 n0 v U'.heap L ∧ FrameEnd U o U' L ({ frames := 2, cells := 1, slots := 10, locals := 29 } : Room).cells ({ frames := 2, cells := 1, slots := 10, locals := 29 } : Room).slots) := by
 refine MetFree.of_bodySF pn8 hisR ?_
 intro p e s m args below meth c s₁ Bd hml0 hP hK
 obtain ⟨rfl, hZ, hh⟩ := hP
 have hx := Bd.exec
 have hby := Bd.bytes
 have hml : c.maxLocals = 1 := hml0
 have hown : s.vm.findClass "java/util/ArrayList" = some m.cls := findClass_of_methodNamed Bd.named
 have hnm := (name_of_methodNamed Bd.named Bd.method).1
 have X0 : Stand p l e ({ frames := 2, cells := 1, slots := 10, locals := 29 } : Room) s m #[(.ref a1)] below meth c s₁ [] 0 0 := Stand.of_body Bd
 have e0 : s₁.heap = h0 := by rw [← hh, Bd.state]; rfl
 have N0 := Fr.nil n0
 have p0 : Go p.tables e below (s₁.setTop (entryFrame m #[(.ref a1)] 1)) (s₁.setTop (mkF m 0 #[.val (.ref a1)] [])) := fun t_ k_ => castTop (ef_rm8 m a1 mc de kde el ea kea em mr) k_
 have p101 : Go p.tables e below _ (s₁.setTop (mkF m 2 #[.val (.ref a1)] [(.ref a1), (.ref a1)])) := fun t_ k_ => p0 t_ (by
  refine XS.aloadN X0.here hx rfl (hb hby d8_0) rfl rfl ?_
  refine XS.aloadN X0.here hx rfl (hb hby d8_1) rfl rfl ?_
  exact k_)
 obtain ⟨T102, X102, e102, st102⟩ := getF X0 hx hZ hown (host := "") (Or.inl (own_w hw 64 rfl)) Via.refl e0 F3 (g := (mkF m 2 #[.val (.ref a1)] [(.ref a1), (.ref a1)])) rfl rfl (hb hby d8_2)
 have p103 : Go p.tables e below _ (T102.setTop (mkF m 7 #[.val (.ref a1)] [(.int (1 : Int32)), (.ref a1)])) := fun t_ k_ => (gc p101 st102) t_ (by
  refine XS.iconst X102.here hx rfl (hb hby d8_5) ?_
  refine XS.iadd X102.here hx rfl (hb hby d8_6) rfl ?_
  exact k_)
 obtain ⟨cq104, q104, q104'⟩ := F0.cell
 obtain ⟨_, _, ⟨T104, L104, k104, n104⟩, -, X104, ⟨Lc104, hQ104, l104, y104, z104⟩, st104⟩ := X102.privateBack hx (y := (⟨"java/util/ArrayList", "grow", "(I)[Ljava/lang/Object;"⟩ : MethodName)) hown (mvT hZ (own_w hw 76 rfl)) (mvT hZ (own_w hw 77 rfl)) (mvT hZ (own_w hw 79 rfl)) (Cond.privateMethod_at (mvP hZ (own_w hw 78 rfl) (args := #[]))) (mvT hZ (own_w hw 80 rfl)) (by decide) (backOf (W := 0) (rm9 l Z a0 hw [] a1 mc de kde el ea kea em mr h0 n0 (Nat.le_trans Z0 (Keep.refl h0 [a1]).1) O1 G F0 F1 F2 F3 g1) hZ (own_w hw 80 rfl) (own_w hw 2 rfl) (by decide) (by decide)) (g := (mkF m 7 #[.val (.ref a1)] [(.int (1 : Int32)), (.ref a1)])) rfl (by rw [hml]; rfl) (Steps.refl _) (a := a1) (by rw [e102]; exact q104) q104' (argsL := [(.int (1 : Int32))]) (rest := []) (lenOf pd2 rfl) rfl (by show 2 * 0 + _ ≤ _; exact Nat.le_of_eq rfl) (hb hby d8_7) (fun _ _ => ⟨rfl, e102, (by decide : 0 + 1 ≤ _), (by decide : 0 + 10 ≤ _)⟩)
 dsimp only [Pt.U, Pt.locs, Pt.cells, Pt.slots] at X104 l104 y104 z104 st104 hQ104
 subst l104 y104 z104
 obtain ⟨x105, x106, rfl, N104q, q104_K, q104_F0, q104_F1, q104_F2, q104_F3, q104_V, q104_X, q104_g, q104_z, q104_n, q104_o⟩ := hQ104
 have N104 := Fr.app N0 N104q
 have K107 : Keep h0 T104.heap [a1] := (Keep.refl h0 [a1]).trans q104_K (allS (Or.inl (List.mem_of_getElem? (i := 0) rfl)) all0)
 have ne_a1_x105 : a1 ≠ x105 := Nat.ne_of_lt (Nat.lt_of_lt_of_le F0.lt q104_z)
 obtain ⟨fs, hr, hrun, hended, hW, hsame⟩ := X104.leave (v := some (.ref x105)) (fun h => by rw [Bd.returns] at h; cases h)
 refine ⟨_, _, (gcT p103 st104) _ (retOut X104 hx (w := (.ref x105)) (i := .areturn) Bd.returns rfl (Or.inr (Or.inr (Or.inr (Or.inr ⟨rfl, rfl, rfl⟩)))) (hb hby d8_10) hr), hrun, hended, _, _, rfl, ?_, ⟨_, rfl⟩, hW, hsame.mono (by decide) (by decide)⟩
 show Q8 Z a1 mc de kde el ea kea em mr h0 n0 _ T104.heap _
 exact ⟨x105, x106, rfl, N104, K107, q104_F0, q104_F1, q104_F2, q104_F3, q104_V, q104_X, q104_g, (Nat.le_trans (Keep.refl h0 [a1]).1 q104_z), q104_n, q104_o⟩
theorem d7_0 : decode jdk_38_method_24_code 0 = .ok (.iload_n 3, 1) := by decide +kernel
theorem d7_1 : decode jdk_38_method_24_code 1 = .ok (.aload_n 2, 1) := by decide +kernel
theorem d7_2 : decode jdk_38_method_24_code 2 = .ok (.arraylength, 1) := by decide +kernel
theorem d7_3 : decode jdk_38_method_24_code 3 = .ok (.if_icmp .ne 8, 3) := by decide +kernel
theorem d7_6 : decode jdk_38_method_24_code 6 = .ok (.aload_n 0, 1) := by decide +kernel
theorem d7_7 : decode jdk_38_method_24_code 7 = .ok (.invokevirtual 129, 3) := by decide +kernel
theorem d7_10 : decode jdk_38_method_24_code 10 = .ok (.astore_n 2, 1) := by decide +kernel
theorem d7_11 : decode jdk_38_method_24_code 11 = .ok (.aload_n 2, 1) := by decide +kernel
theorem d7_12 : decode jdk_38_method_24_code 12 = .ok (.iload_n 3, 1) := by decide +kernel
theorem d7_13 : decode jdk_38_method_24_code 13 = .ok (.aload_n 1, 1) := by decide +kernel
theorem d7_14 : decode jdk_38_method_24_code 14 = .ok (.aastore, 1) := by decide +kernel
theorem d7_15 : decode jdk_38_method_24_code 15 = .ok (.aload_n 0, 1) := by decide +kernel
theorem d7_16 : decode jdk_38_method_24_code 16 = .ok (.iload_n 3, 1) := by decide +kernel
theorem d7_17 : decode jdk_38_method_24_code 17 = .ok (.iconst 1, 1) := by decide +kernel
theorem d7_18 : decode jdk_38_method_24_code 18 = .ok (.iadd, 1) := by decide +kernel
theorem d7_19 : decode jdk_38_method_24_code 19 = .ok (.putfield 48, 3) := by decide +kernel
theorem d7_22 : decode jdk_38_method_24_code 22 = .ok (.return_, 1) := by decide +kernel
theorem pd3 : parseMethodDescriptor "()[Ljava/lang/Object;" = some ⟨[], some (.array (.object "java/lang/Object"))⟩ := by decide +kernel
theorem pn7 : plainFor (⟨"java/util/ArrayList", "add", "(Ljava/lang/Object;[Ljava/lang/Object;I)V"⟩ : MethodName) = true := plainFor_of_name (by first | (simp [plainName, overriddenIn]; done) | decide +kernel)
theorem ef_rm7_0 (m : MethodId) (a1 : Addr) (a2 : Addr) (mc : Int32) (de : Addr) (kde : ClassId) (el : Addr) (ea : Addr) (kea : ClassId) (em : Addr) (mr : Addr) : entryFrame m #[(.ref a1), (.ref a2), (.ref de), (.int (0 : Int32))] 4 = mkF m 0 #[.val (.ref a1), .val (.ref a2), .val (.ref de), .val (.int (0 : Int32))] [] := by first | (simp [entryFrame, mkF, argsToLocals, Value.category]; done) | rfl
def Q7_0 (Z : State) (a1 : Addr) (a2 : Addr) (mc : Int32) (de : Addr) (kde : ClassId) (el : Addr) (ea : Addr) (kea : ClassId) (em : Addr) (mr : Addr) (h0 : Heap) (n0 : Nat) (v : Option Value) (h : Heap) (L : List Loc) : Prop := ∃ (b : Addr) (kb : ClassId), v = none ∧ Fr n0 L ∧ (Keep h0 h [a1]) ∧ (Exa Z h a1 "java/util/ArrayList") ∧ (Fld Z h a1 "java/util/AbstractList" "modCount" "I" (.int mc)) ∧ (Fld Z h a1 "java/util/ArrayList" "elementData" "[Ljava/lang/Object;" (.ref b)) ∧ (Fld Z h a1 "java/util/ArrayList" "size" "I" (.int (1 : Int32))) ∧ (Arv Z h b kb (.object "java/lang/Object") (10 : Int32) [(.ref a2), .null, .null, .null, .null, .null, .null, .null, .null, .null] .null) ∧ (Exa Z h b "[Ljava/lang/Object;") ∧ (n0 ≤ b) ∧ (h0.size ≤ b) ∧ (a1 ≠ b) ∧ (Ovr Z kb "java/lang/Object")
set_option maxRecDepth 65536 in
set_option maxHeartbeats 40000000 in
theorem rm7_0 (l : Launch) (Z : State) (a0 : Array Value) (hw : ∀ d ∈ tables_1, d.before a0 Z = true) (ws : List Jvm.Cond) (a1 : Addr) (a2 : Addr) (mc : Int32) (de : Addr) (kde : ClassId) (el : Addr) (ea : Addr) (kea : ClassId) (em : Addr) (mr : Addr) (h0 : Heap) (n0 : Nat) (Z0 : n0 ≤ h0.size) (O1 : Old Z n0 h0) (G : own_H Z de kde el ea kea em mr) (F0 : Exa Z h0 a1 "java/util/ArrayList") (F1 : Fld Z h0 a1 "java/util/AbstractList" "modCount" "I" (.int mc)) (F2 : Fld Z h0 a1 "java/util/ArrayList" "elementData" "[Ljava/lang/Object;" (.ref de)) (F3 : Fld Z h0 a1 "java/util/ArrayList" "size" "I" (.int (0 : Int32))) (g1 : n0 ≤ a1) (X2 : Exa Z h0 a2 "com/example/arcward/arcward/model/Variable") (n2 : a1 ≠ a2) :
  MetFree l (⟨"java/util/ArrayList", "add", "(Ljava/lang/Object;[Ljava/lang/Object;I)V"⟩ : MethodName) (head1 (Jvm.Cond.code (⟨"java/util/ArrayList", "add", "(Ljava/lang/Object;[Ljava/lang/Object;I)V"⟩ : MethodName) jdk_38_method_24_code 4 none :: ws) ({ frames := 3, cells := 1, slots := 10, locals := 41 } : Room)) (fun a U => a = #[(.ref a1), (.ref a2), (.ref de), (.int (0 : Int32))] ∧ Z.Warmed39 U.vm ∧ U.heap = h0) (fun _ _ _ _ _ => True) (fun _ U o U' => ∃ v L, o = .returned v ∧ Q7_0 Z a1 a2 mc de kde el ea kea em mr h0 n0 v U'.heap L ∧ FrameEnd U o U' L ({ frames := 3, cells := 1, slots := 10, locals := 41 } : Room).cells ({ frames := 3, cells := 1, slots := 10, locals := 41 } : Room).slots) := by
 refine MetFree.of_bodySF pn7 hisR ?_
 intro p e s m args below meth c s₁ Bd hml0 hP hK
 obtain ⟨rfl, hZ, hh⟩ := hP
 have hx := Bd.exec
 have hby := Bd.bytes
 have hml : c.maxLocals = 4 := hml0
 have hown : s.vm.findClass "java/util/ArrayList" = some m.cls := findClass_of_methodNamed Bd.named
 have hnm := (name_of_methodNamed Bd.named Bd.method).1
 have X0 : Stand p l e ({ frames := 3, cells := 1, slots := 10, locals := 41 } : Room) s m #[(.ref a1), (.ref a2), (.ref de), (.int (0 : Int32))] below meth c s₁ [] 0 0 := Stand.of_body Bd
 have e0 : s₁.heap = h0 := by rw [← hh, Bd.state]; rfl
 have N0 := Fr.nil n0
 have p0 : Go p.tables e below (s₁.setTop (entryFrame m #[(.ref a1), (.ref a2), (.ref de), (.int (0 : Int32))] 4)) (s₁.setTop (mkF m 0 #[.val (.ref a1), .val (.ref a2), .val (.ref de), .val (.int (0 : Int32))] [])) := fun t_ k_ => castTop (ef_rm7_0 m a1 a2 mc de kde el ea kea em mr) k_
 have p101 : Go p.tables e below _ (s₁.setTop (mkF m 2 #[.val (.ref a1), .val (.ref a2), .val (.ref de), .val (.int (0 : Int32))] [(.ref de), (.int (0 : Int32))])) := fun t_ k_ => p0 t_ (by
  refine XS.iloadN X0.here hx rfl (hb hby d7_0) rfl ?_
  refine XS.aloadN X0.here hx rfl (hb hby d7_1) rfl rfl ?_
  exact k_)
 obtain ⟨cl102, Ar102, -, S102, Ng102, -, -⟩ := id (G.2.2.1.ext O1.2)
 have p103 : Go p.tables e below _ (s₁.setTop (mkF m 7 #[.val (.ref a1), .val (.ref a2), .val (.ref de), .val (.int (0 : Int32))] [(.ref a1)])) := fun t_ k_ => p101 t_ (by
  refine X0.arraylength hx (by rw [e0]; exact Ar102.1) (State.isArrayOf_alike hZ.alike Ar102.2.1) (g := (mkF m 2 #[.val (.ref a1), .val (.ref a2), .val (.ref de), .val (.int (0 : Int32))] [(.ref de), (.int (0 : Int32))])) rfl rfl (hb hby d7_2) _ ?_
  rw [len_of S102 Ng102]
  show Steps p.tables e below (s₁.setTop (mkF m 3 #[.val (.ref a1), .val (.ref a2), .val (.ref de), .val (.int (0 : Int32))] [(.int (0 : Int32)), (.int (0 : Int32))])) _
  refine XS.icmpNo X0.here hx rfl (hb hby d7_3) rfl (teq (by decide : ((0 : Int32) = (0 : Int32)))).2 ?_
  refine XS.aloadN X0.here hx rfl (hb hby d7_6) rfl rfl ?_
  exact k_)
 obtain ⟨cq104, q104, q104'⟩ := F0.cell
 obtain ⟨_, _, ⟨T104, L104, k104, n104⟩, -, X104, ⟨Lc104, hQ104, l104, y104, z104⟩, st104⟩ := X0.privateBack hx (y := (⟨"java/util/ArrayList", "grow", "()[Ljava/lang/Object;"⟩ : MethodName)) hown (mvT hZ (own_w hw 71 rfl)) (mvT hZ (own_w hw 72 rfl)) (mvT hZ (own_w hw 74 rfl)) (Cond.privateMethod_at (mvP hZ (own_w hw 73 rfl) (args := #[]))) (mvT hZ (own_w hw 75 rfl)) (by decide) (backOf (W := 0) (rm8 l Z a0 hw [] a1 mc de kde el ea kea em mr h0 n0 (Nat.le_trans Z0 (Keep.refl h0 [a1]).1) O1 G F0 F1 F2 F3 g1) hZ (own_w hw 75 rfl) (own_w hw 2 rfl) (by decide) (by decide)) (g := (mkF m 7 #[.val (.ref a1), .val (.ref a2), .val (.ref de), .val (.int (0 : Int32))] [(.ref a1)])) rfl (by rw [hml]; rfl) (Steps.refl _) (a := a1) (by rw [e0]; exact q104) q104' (argsL := []) (rest := []) (lenOf pd3 rfl) rfl (by show 2 * 0 + _ ≤ _; exact Nat.le_of_eq rfl) (hb hby d7_7) (fun _ _ => ⟨rfl, e0, (by decide : 0 + 1 ≤ _), (by decide : 0 + 10 ≤ _)⟩)
 dsimp only [Pt.U, Pt.locs, Pt.cells, Pt.slots] at X104 l104 y104 z104 st104 hQ104
 subst l104 y104 z104
 obtain ⟨x105, x106, rfl, N104q, q104_K, q104_F0, q104_F1, q104_F2, q104_F3, q104_V, q104_X, q104_g, q104_z, q104_n, q104_o⟩ := hQ104
 have N104 := Fr.app N0 N104q
 have K107 : Keep h0 T104.heap [a1] := (Keep.refl h0 [a1]).trans q104_K (allS (Or.inl (List.mem_of_getElem? (i := 0) rfl)) all0)
 have ne_a1_x105 : a1 ≠ x105 := Nat.ne_of_lt (Nat.lt_of_lt_of_le F0.lt q104_z)
 have ne_a2_x105 : a2 ≠ x105 := Nat.ne_of_lt (Nat.lt_of_lt_of_le X2.lt q104_z)
 have p108 : Go p.tables e below _ (T104.setTop (mkF m 14 #[.val (.ref a1), .val (.ref a2), .val (.ref x105), .val (.int (0 : Int32))] [(.ref a2), (.int (0 : Int32)), (.ref x105)])) := fun t_ k_ => (gcT p103 st104) t_ (by
  refine XS.astoreN X104.here hx rfl (hb hby d7_10) rfl rfl (l' := #[.val (.ref a1), .val (.ref a2), .val (.ref x105), .val (.int (0 : Int32))]) rfl ?_
  refine XS.aloadN X104.here hx rfl (hb hby d7_11) rfl rfl ?_
  refine XS.iloadN X104.here hx rfl (hb hby d7_12) rfl ?_
  refine XS.aloadN X104.here hx rfl (hb hby d7_13) rfl rfl ?_
  exact k_)
 have f109 := (X2.keep q104_K)
 obtain ⟨cl110, Ar110, q110, S110, Ng110, H110, G110⟩ := id q104_V
 have hin110 := inb_of S110 (j := (0 : Int32)) ⟨by decide, by decide⟩
 obtain ⟨T110, h110, X110, e110, W110, st110⟩ := stR X104 hx hZ rfl Ar110 (j := (0 : Int32)) hin110 rfl (Sto.ofV Ar110 q110 q104_o (Ins.of_exa f109 (own_w hw 87 rfl))) (g := (mkF m 14 #[.val (.ref a1), .val (.ref a2), .val (.ref x105), .val (.int (0 : Int32))] [(.ref a2), (.int (0 : Int32)), (.ref x105)])) rfl rfl (hb hby d7_14)
 have K111 : Keep h0 h110 [a1] := K107.wr W110 (Or.inr (Nat.le_trans (Keep.refl h0 [a1]).1 q104_z))
 have N110 := Fr.snoc X110 N104 q104_g
 have V110 : Arv Z h110 x105 x106 (.object "java/lang/Object") (10 : Int32) [(.ref a2), .null, .null, .null, .null, .null, .null, .null, .null, .null] .null := Arv.set Ar110 q110 S110 Ng110 H110 G110 rfl W110 0 rfl (Nat.le_of_ble_eq_true rfl)
 have p112 : Go p.tables e below _ (T110.setTop (mkF m 19 #[.val (.ref a1), .val (.ref a2), .val (.ref x105), .val (.int (0 : Int32))] [(.int (1 : Int32)), (.ref a1)])) := fun t_ k_ => (gc p108 st110) t_ (by
  refine XS.aloadN X110.here hx rfl (hb hby d7_15) rfl rfl ?_
  refine XS.iloadN X110.here hx rfl (hb hby d7_16) rfl ?_
  refine XS.iconst X110.here hx rfl (hb hby d7_17) ?_
  refine XS.iadd X110.here hx rfl (hb hby d7_18) rfl ?_
  exact k_)
 have f113 := (q104_F3.other W110 (Or.inl q104_n))
 have f114 := (q104_F0.wr W110)
 obtain ⟨T115, h115, X115, e115, W115, st115⟩ := putF X110 hx hZ hown (host := "") (Or.inl (own_w hw 64 rfl)) Via.refl e110 f113 f114 (Or.inl (own_w hw 65 rfl)) (own_w hw 1 rfl) (ty := .int) (by decide) rfl rfl (g := (mkF m 19 #[.val (.ref a1), .val (.ref a2), .val (.ref x105), .val (.int (0 : Int32))] [(.int (1 : Int32)), (.ref a1)])) rfl rfl (hb hby d7_19)
 have K116 : Keep h0 h115 [a1] := K111.wr W115 (Or.inl (List.mem_of_getElem? (i := 0) rfl))
 have N115 := Fr.snoc X115 N110 g1
 have F115 : Fld Z h115 a1 "java/util/ArrayList" "size" "I" (.int (1 : Int32)) := f113.same W115
 have f117 := (f114.wr W115)
 have f118 := ((q104_F1.other W110 (Or.inl q104_n)).other W115 (Or.inr (slot_ne (Or.inl (own_w hw 22 rfl)) (Or.inl (own_w hw 65 rfl)) (by decide) (t := .int) (t' := .int) (by decide) (by decide))))
 have f119 := ((q104_F2.other W110 (Or.inl q104_n)).other W115 (Or.inr (slot_ne (Or.inl (own_w hw 25 rfl)) (Or.inl (own_w hw 65 rfl)) (by decide) (t := (.array (.object "java/lang/Object"))) (t' := .int) (by decide) (by decide))))
 have f120 := (V110.other W115 (Ne.symm q104_n))
 have f121 := ((q104_X.wr W110).wr W115)
 obtain ⟨fs, hr, hrun, hended, hW, hsame⟩ := X115.leave (v := none) (fun _ => rfl)
 refine ⟨_, _, (gc p112 st115) _ (X115.returnOut hx Bd.returns (hb hby d7_22) hr), hrun, hended, _, _, rfl, ?_, ⟨_, rfl⟩, hW, hsame.mono (by decide) (by decide)⟩
 show Q7_0 Z a1 a2 mc de kde el ea kea em mr h0 n0 _ T115.heap _
 rw [e115]
 exact ⟨x105, x106, rfl, N115, K116, f117, f118, f119, F115, f120, f121, q104_g, (Nat.le_trans (Keep.refl h0 [a1]).1 q104_z), q104_n, q104_o⟩
theorem d6_0 : decode jdk_38_method_25_code 0 = .ok (.aload_n 0, 1) := by decide +kernel
theorem d6_1 : decode jdk_38_method_25_code 1 = .ok (.dup, 1) := by decide +kernel
theorem d6_2 : decode jdk_38_method_25_code 2 = .ok (.getfield 63, 3) := by decide +kernel
theorem d6_5 : decode jdk_38_method_25_code 5 = .ok (.iconst 1, 1) := by decide +kernel
theorem d6_6 : decode jdk_38_method_25_code 6 = .ok (.iadd, 1) := by decide +kernel
theorem d6_7 : decode jdk_38_method_25_code 7 = .ok (.putfield 63, 3) := by decide +kernel
theorem d6_10 : decode jdk_38_method_25_code 10 = .ok (.aload_n 0, 1) := by decide +kernel
theorem d6_11 : decode jdk_38_method_25_code 11 = .ok (.aload_n 1, 1) := by decide +kernel
theorem d6_12 : decode jdk_38_method_25_code 12 = .ok (.aload_n 0, 1) := by decide +kernel
theorem d6_13 : decode jdk_38_method_25_code 13 = .ok (.getfield 9, 3) := by decide +kernel
theorem d6_16 : decode jdk_38_method_25_code 16 = .ok (.aload_n 0, 1) := by decide +kernel
theorem d6_17 : decode jdk_38_method_25_code 17 = .ok (.getfield 48, 3) := by decide +kernel
theorem d6_20 : decode jdk_38_method_25_code 20 = .ok (.invokevirtual 131, 3) := by decide +kernel
theorem d6_23 : decode jdk_38_method_25_code 23 = .ok (.iconst 1, 1) := by decide +kernel
theorem d6_24 : decode jdk_38_method_25_code 24 = .ok (.ireturn, 1) := by decide +kernel
theorem pd4 : parseMethodDescriptor "(Ljava/lang/Object;[Ljava/lang/Object;I)V" = some ⟨[(.object "java/lang/Object"), (.array (.object "java/lang/Object")), .int], none⟩ := by decide +kernel
theorem pn6 : plainFor (⟨"java/util/ArrayList", "add", "(Ljava/lang/Object;)Z"⟩ : MethodName) = true := plainFor_of_name (by first | (simp [plainName, overriddenIn]; done) | decide +kernel)
theorem ef_rm6_0 (m : MethodId) (a1 : Addr) (a2 : Addr) (mc : Int32) (de : Addr) (kde : ClassId) (el : Addr) (ea : Addr) (kea : ClassId) (em : Addr) (mr : Addr) : entryFrame m #[(.ref a1), (.ref a2)] 2 = mkF m 0 #[.val (.ref a1), .val (.ref a2)] [] := by first | (simp [entryFrame, mkF, argsToLocals, Value.category]; done) | rfl
def Q6_0 (Z : State) (a1 : Addr) (a2 : Addr) (mc : Int32) (de : Addr) (kde : ClassId) (el : Addr) (ea : Addr) (kea : ClassId) (em : Addr) (mr : Addr) (h0 : Heap) (n0 : Nat) (v : Option Value) (h : Heap) (L : List Loc) : Prop := ∃ (b : Addr) (kb : ClassId), v = some (.int (1 : Int32)) ∧ Fr n0 L ∧ (Keep h0 h [a1]) ∧ (Exa Z h a1 "java/util/ArrayList") ∧ (Fld Z h a1 "java/util/AbstractList" "modCount" "I" (.int (mc + (1 : Int32)))) ∧ (Fld Z h a1 "java/util/ArrayList" "elementData" "[Ljava/lang/Object;" (.ref b)) ∧ (Fld Z h a1 "java/util/ArrayList" "size" "I" (.int (1 : Int32))) ∧ (Arv Z h b kb (.object "java/lang/Object") (10 : Int32) [(.ref a2), .null, .null, .null, .null, .null, .null, .null, .null, .null] .null) ∧ (Exa Z h b "[Ljava/lang/Object;") ∧ (n0 ≤ b) ∧ (h0.size ≤ b) ∧ (a1 ≠ b) ∧ (Ovr Z kb "java/lang/Object")
set_option maxRecDepth 65536 in
set_option maxHeartbeats 40000000 in
theorem rm6_0 (l : Launch) (Z : State) (a0 : Array Value) (hw : ∀ d ∈ tables_1, d.before a0 Z = true) (ws : List Jvm.Cond) (a1 : Addr) (a2 : Addr) (mc : Int32) (de : Addr) (kde : ClassId) (el : Addr) (ea : Addr) (kea : ClassId) (em : Addr) (mr : Addr) (h0 : Heap) (n0 : Nat) (Z0 : n0 ≤ h0.size) (O1 : Old Z n0 h0) (G : own_H Z de kde el ea kea em mr) (F0 : Exa Z h0 a1 "java/util/ArrayList") (F1 : Fld Z h0 a1 "java/util/AbstractList" "modCount" "I" (.int mc)) (F2 : Fld Z h0 a1 "java/util/ArrayList" "elementData" "[Ljava/lang/Object;" (.ref de)) (F3 : Fld Z h0 a1 "java/util/ArrayList" "size" "I" (.int (0 : Int32))) (g1 : n0 ≤ a1) (X2 : Exa Z h0 a2 "com/example/arcward/arcward/model/Variable") (n2 : a1 ≠ a2) :
  MetFree l (⟨"java/util/ArrayList", "add", "(Ljava/lang/Object;)Z"⟩ : MethodName) (head1 (Jvm.Cond.code (⟨"java/util/ArrayList", "add", "(Ljava/lang/Object;)Z"⟩ : MethodName) jdk_38_method_25_code 2 (some .boolean) :: ws) ({ frames := 4, cells := 1, slots := 10, locals := 56 } : Room)) (fun a U => a = #[(.ref a1), (.ref a2)] ∧ Z.Warmed39 U.vm ∧ U.heap = h0) (fun _ _ _ _ _ => True) (fun _ U o U' => ∃ v L, o = .returned v ∧ Q6_0 Z a1 a2 mc de kde el ea kea em mr h0 n0 v U'.heap L ∧ FrameEnd U o U' L ({ frames := 4, cells := 1, slots := 10, locals := 56 } : Room).cells ({ frames := 4, cells := 1, slots := 10, locals := 56 } : Room).slots) := by
 refine MetFree.of_bodySF pn6 hisR ?_
 intro p e s m args below meth c s₁ Bd hml0 hP hK
 obtain ⟨rfl, hZ, hh⟩ := hP
 have hx := Bd.exec
 have hby := Bd.bytes
 have hml : c.maxLocals = 2 := hml0
 have hown : s.vm.findClass "java/util/ArrayList" = some m.cls := findClass_of_methodNamed Bd.named
 have hnm := (name_of_methodNamed Bd.named Bd.method).1
 have X0 : Stand p l e ({ frames := 4, cells := 1, slots := 10, locals := 56 } : Room) s m #[(.ref a1), (.ref a2)] below meth c s₁ [] 0 0 := Stand.of_body Bd
 have e0 : s₁.heap = h0 := by rw [← hh, Bd.state]; rfl
 have N0 := Fr.nil n0
 have p0 : Go p.tables e below (s₁.setTop (entryFrame m #[(.ref a1), (.ref a2)] 2)) (s₁.setTop (mkF m 0 #[.val (.ref a1), .val (.ref a2)] [])) := fun t_ k_ => castTop (ef_rm6_0 m a1 a2 mc de kde el ea kea em mr) k_
 have p101 : Go p.tables e below _ (s₁.setTop (mkF m 2 #[.val (.ref a1), .val (.ref a2)] [(.ref a1), (.ref a1)])) := fun t_ k_ => p0 t_ (by
  refine XS.aloadN X0.here hx rfl (hb hby d6_0) rfl rfl ?_
  refine XS.dup X0.here hx rfl (hb hby d6_1) rfl rfl ?_
  exact k_)
 obtain ⟨T102, X102, e102, st102⟩ := getF X0 hx hZ hown (host := "") (Or.inl (own_w hw 62 rfl)) (Via.of (own_w hw 63 rfl)) e0 F1 (g := (mkF m 2 #[.val (.ref a1), .val (.ref a2)] [(.ref a1), (.ref a1)])) rfl rfl (hb hby d6_2)
 have p103 : Go p.tables e below _ (T102.setTop (mkF m 7 #[.val (.ref a1), .val (.ref a2)] [(.int (mc + (1 : Int32))), (.ref a1)])) := fun t_ k_ => (gc p101 st102) t_ (by
  refine XS.iconst X102.here hx rfl (hb hby d6_5) ?_
  refine XS.iadd X102.here hx rfl (hb hby d6_6) rfl ?_
  exact k_)
 obtain ⟨T104, h104, X104, e104, W104, st104⟩ := putF X102 hx hZ hown (host := "") (Or.inl (own_w hw 62 rfl)) (Via.of (own_w hw 63 rfl)) e102 F1 F0 (Or.inl (own_w hw 22 rfl)) (own_w hw 1 rfl) (ty := .int) (by decide) rfl rfl (g := (mkF m 7 #[.val (.ref a1), .val (.ref a2)] [(.int (mc + (1 : Int32))), (.ref a1)])) rfl rfl (hb hby d6_7)
 have K105 : Keep h0 h104 [a1] := (Keep.refl h0 [a1]).wr W104 (Or.inl (List.mem_of_getElem? (i := 0) rfl))
 have N104 := Fr.snoc X104 N0 g1
 have F104 : Fld Z h104 a1 "java/util/AbstractList" "modCount" "I" (.int (mc + (1 : Int32))) := F1.same W104
 have p106 : Go p.tables e below _ (T104.setTop (mkF m 13 #[.val (.ref a1), .val (.ref a2)] [(.ref a1), (.ref a2), (.ref a1)])) := fun t_ k_ => (gc p103 st104) t_ (by
  refine XS.aloadN X104.here hx rfl (hb hby d6_10) rfl rfl ?_
  refine XS.aloadN X104.here hx rfl (hb hby d6_11) rfl rfl ?_
  refine XS.aloadN X104.here hx rfl (hb hby d6_12) rfl rfl ?_
  exact k_)
 have f107 := (F2.other W104 (Or.inr (slot_ne (Or.inl (own_w hw 25 rfl)) (Or.inl (own_w hw 22 rfl)) (by decide) (t := (.array (.object "java/lang/Object"))) (t' := .int) (by decide) (by decide))))
 obtain ⟨T108, X108, e108, st108⟩ := getF X104 hx hZ hown (host := "") (Or.inl (own_w hw 24 rfl)) Via.refl e104 f107 (g := (mkF m 13 #[.val (.ref a1), .val (.ref a2)] [(.ref a1), (.ref a2), (.ref a1)])) rfl rfl (hb hby d6_13)
 have p109 : Go p.tables e below _ (T108.setTop (mkF m 17 #[.val (.ref a1), .val (.ref a2)] [(.ref a1), (.ref de), (.ref a2), (.ref a1)])) := fun t_ k_ => (gc p106 st108) t_ (by
  refine XS.aloadN X108.here hx rfl (hb hby d6_16) rfl rfl ?_
  exact k_)
 have f110 := (F3.other W104 (Or.inr (slot_ne (Or.inl (own_w hw 65 rfl)) (Or.inl (own_w hw 22 rfl)) (by decide) (t := .int) (t' := .int) (by decide) (by decide))))
 obtain ⟨T111, X111, e111, st111⟩ := getF X108 hx hZ hown (host := "") (Or.inl (own_w hw 64 rfl)) Via.refl e108 f110 (g := (mkF m 17 #[.val (.ref a1), .val (.ref a2)] [(.ref a1), (.ref de), (.ref a2), (.ref a1)])) rfl rfl (hb hby d6_17)
 have f112 := (F0.wr W104)
 have f113 := (X2.wr W104)
 have f114 := (O1.wr W104 g1)
 obtain ⟨cq115, q115, q115'⟩ := f112.cell
 obtain ⟨_, _, ⟨T115, L115, k115, n115⟩, -, X115, ⟨Lc115, hQ115, l115, y115, z115⟩, st115⟩ := X111.privateBack hx (y := (⟨"java/util/ArrayList", "add", "(Ljava/lang/Object;[Ljava/lang/Object;I)V"⟩ : MethodName)) hown (mvT hZ (own_w hw 66 rfl)) (mvT hZ (own_w hw 67 rfl)) (mvT hZ (own_w hw 69 rfl)) (Cond.privateMethod_at (mvP hZ (own_w hw 68 rfl) (args := #[]))) (mvT hZ (own_w hw 70 rfl)) (by decide) (backOf (W := 0) (rm7_0 l Z a0 hw [] a1 a2 (mc + (1 : Int32)) de kde el ea kea em mr h104 n0 (Nat.le_trans Z0 K105.1) f114 G f112 F104 f107 f110 g1 f113 n2) hZ (own_w hw 70 rfl) (own_w hw 2 rfl) (by decide) (by decide)) (g := (mkF m 20 #[.val (.ref a1), .val (.ref a2)] [(.int (0 : Int32)), (.ref de), (.ref a2), (.ref a1)])) rfl (by rw [hml]; rfl) (Steps.refl _) (a := a1) (by rw [e111]; exact q115) q115' (argsL := [(.ref a2), (.ref de), (.int (0 : Int32))]) (rest := []) (lenOf pd4 rfl) rfl (by show 2 * 0 + _ ≤ _; exact Nat.le_of_eq rfl) (hb hby d6_20) (fun _ _ => ⟨rfl, e111, (by decide : 0 + 1 ≤ _), (by decide : 0 + 10 ≤ _)⟩)
 dsimp only [Pt.U, Pt.locs, Pt.cells, Pt.slots] at X115 l115 y115 z115 st115 hQ115
 subst l115 y115 z115
 obtain ⟨x116, x117, rfl, N115q, q115_K, q115_F0, q115_F1, q115_F2, q115_F3, q115_V, q115_X, q115_g, q115_z, q115_n, q115_o⟩ := hQ115
 have N115 := Fr.app N104 N115q
 have K118 : Keep h0 T115.heap [a1] := K105.trans q115_K (allS (Or.inl (List.mem_of_getElem? (i := 0) rfl)) all0)
 have ne_a1_x116 : a1 ≠ x116 := Nat.ne_of_lt (Nat.lt_of_lt_of_le f112.lt q115_z)
 have ne_a2_x116 : a2 ≠ x116 := Nat.ne_of_lt (Nat.lt_of_lt_of_le f113.lt q115_z)
 have p119 : Go p.tables e below _ (T115.setTop (mkF m 24 #[.val (.ref a1), .val (.ref a2)] [(.int (1 : Int32))])) := fun t_ k_ => (gcT (gc p109 st111) st115) t_ (by
  refine XS.iconst X115.here hx rfl (hb hby d6_23) ?_
  exact k_)
 obtain ⟨fs, hr, hrun, hended, hW, hsame⟩ := X115.leave (v := some (.int (1 : Int32))) (fun h => by rw [Bd.returns] at h; cases h)
 refine ⟨_, _, p119 _ (retN X115 hx (t := .boolean) Bd.returns (by simp) (hb hby d6_24) hr), hrun, hended, _, _, rfl, ?_, ⟨_, rfl⟩, hW, hsame.mono (by decide) (by decide)⟩
 show Q6_0 Z a1 a2 mc de kde el ea kea em mr h0 n0 _ T115.heap _
 exact ⟨x116, x117, rfl, N115, K118, q115_F0, q115_F1, q115_F2, q115_F3, q115_V, q115_X, q115_g, (Nat.le_trans K105.1 q115_z), q115_n, q115_o⟩
theorem ef_rm7_1 (m : MethodId) (a1 : Addr) (a2 : Addr) (mc : Int32) (b : Addr) (kb : ClassId) (x0 : Addr) : entryFrame m #[(.ref a1), (.ref a2), (.ref b), (.int (1 : Int32))] 4 = mkF m 0 #[.val (.ref a1), .val (.ref a2), .val (.ref b), .val (.int (1 : Int32))] [] := by first | (simp [entryFrame, mkF, argsToLocals, Value.category]; done) | rfl
def Q7_1 (Z : State) (a1 : Addr) (a2 : Addr) (mc : Int32) (b : Addr) (kb : ClassId) (x0 : Addr) (h0 : Heap) (n0 : Nat) (v : Option Value) (h : Heap) (L : List Loc) : Prop := v = none ∧ Fr n0 L ∧ (Keep h0 h [a1, b]) ∧ (Exa Z h a1 "java/util/ArrayList") ∧ (Fld Z h a1 "java/util/AbstractList" "modCount" "I" (.int mc)) ∧ (Fld Z h a1 "java/util/ArrayList" "elementData" "[Ljava/lang/Object;" (.ref b)) ∧ (Fld Z h a1 "java/util/ArrayList" "size" "I" (.int (2 : Int32))) ∧ (Arv Z h b kb (.object "java/lang/Object") (10 : Int32) [(.ref x0), (.ref a2), .null, .null, .null, .null, .null, .null, .null, .null] .null) ∧ (Exa Z h b "[Ljava/lang/Object;")
set_option maxRecDepth 65536 in
set_option maxHeartbeats 40000000 in
theorem rm7_1 (l : Launch) (Z : State) (a0 : Array Value) (hw : ∀ d ∈ tables_1, d.before a0 Z = true) (ws : List Jvm.Cond) (a1 : Addr) (a2 : Addr) (mc : Int32) (b : Addr) (kb : ClassId) (x0 : Addr) (h0 : Heap) (n0 : Nat) (Z0 : n0 ≤ h0.size) (F0 : Exa Z h0 a1 "java/util/ArrayList") (F1 : Fld Z h0 a1 "java/util/AbstractList" "modCount" "I" (.int mc)) (F2 : Fld Z h0 a1 "java/util/ArrayList" "elementData" "[Ljava/lang/Object;" (.ref b)) (F3 : Fld Z h0 a1 "java/util/ArrayList" "size" "I" (.int (1 : Int32))) (F4 : Arv Z h0 b kb (.object "java/lang/Object") (10 : Int32) [(.ref x0), .null, .null, .null, .null, .null, .null, .null, .null, .null] .null) (F5 : Exa Z h0 b "[Ljava/lang/Object;") (g1 : n0 ≤ a1) (g2 : n0 ≤ b) (n1 : a1 ≠ b) (n3 : a2 ≠ b) (o : Ovr Z kb "java/lang/Object") (X2 : Exa Z h0 a2 "com/example/arcward/arcward/model/Variable") (n2 : a1 ≠ a2) :
  MetFree l (⟨"java/util/ArrayList", "add", "(Ljava/lang/Object;[Ljava/lang/Object;I)V"⟩ : MethodName) (head1 (Jvm.Cond.code (⟨"java/util/ArrayList", "add", "(Ljava/lang/Object;[Ljava/lang/Object;I)V"⟩ : MethodName) jdk_38_method_24_code 4 none :: ws) ({ frames := 0, cells := 0, slots := 0, locals := 0 } : Room)) (fun a U => a = #[(.ref a1), (.ref a2), (.ref b), (.int (1 : Int32))] ∧ Z.Warmed39 U.vm ∧ U.heap = h0) (fun _ _ _ _ _ => True) (fun _ U o U' => ∃ v L, o = .returned v ∧ Q7_1 Z a1 a2 mc b kb x0 h0 n0 v U'.heap L ∧ FrameEnd U o U' L ({ frames := 0, cells := 0, slots := 0, locals := 0 } : Room).cells ({ frames := 0, cells := 0, slots := 0, locals := 0 } : Room).slots) := by
 refine MetFree.of_bodySF pn7 hisR ?_
 intro p e s m args below meth c s₁ Bd hml0 hP hK
 obtain ⟨rfl, hZ, hh⟩ := hP
 have hx := Bd.exec
 have hby := Bd.bytes
 have hml : c.maxLocals = 4 := hml0
 have hown : s.vm.findClass "java/util/ArrayList" = some m.cls := findClass_of_methodNamed Bd.named
 have hnm := (name_of_methodNamed Bd.named Bd.method).1
 have X0 : Stand p l e ({ frames := 0, cells := 0, slots := 0, locals := 0 } : Room) s m #[(.ref a1), (.ref a2), (.ref b), (.int (1 : Int32))] below meth c s₁ [] 0 0 := Stand.of_body Bd
 have e0 : s₁.heap = h0 := by rw [← hh, Bd.state]; rfl
 have N0 := Fr.nil n0
 have p0 : Go p.tables e below (s₁.setTop (entryFrame m #[(.ref a1), (.ref a2), (.ref b), (.int (1 : Int32))] 4)) (s₁.setTop (mkF m 0 #[.val (.ref a1), .val (.ref a2), .val (.ref b), .val (.int (1 : Int32))] [])) := fun t_ k_ => castTop (ef_rm7_1 m a1 a2 mc b kb x0) k_
 have p101 : Go p.tables e below _ (s₁.setTop (mkF m 2 #[.val (.ref a1), .val (.ref a2), .val (.ref b), .val (.int (1 : Int32))] [(.ref b), (.int (1 : Int32))])) := fun t_ k_ => p0 t_ (by
  refine XS.iloadN X0.here hx rfl (hb hby d7_0) rfl ?_
  refine XS.aloadN X0.here hx rfl (hb hby d7_1) rfl rfl ?_
  exact k_)
 obtain ⟨cl102, Ar102, -, S102, Ng102, -, -⟩ := id F4
 have p103 : Go p.tables e below _ (s₁.setTop (mkF m 14 #[.val (.ref a1), .val (.ref a2), .val (.ref b), .val (.int (1 : Int32))] [(.ref a2), (.int (1 : Int32)), (.ref b)])) := fun t_ k_ => p101 t_ (by
  refine X0.arraylength hx (by rw [e0]; exact Ar102.1) (State.isArrayOf_alike hZ.alike Ar102.2.1) (g := (mkF m 2 #[.val (.ref a1), .val (.ref a2), .val (.ref b), .val (.int (1 : Int32))] [(.ref b), (.int (1 : Int32))])) rfl rfl (hb hby d7_2) _ ?_
  rw [len_of S102 Ng102]
  show Steps p.tables e below (s₁.setTop (mkF m 3 #[.val (.ref a1), .val (.ref a2), .val (.ref b), .val (.int (1 : Int32))] [(.int (10 : Int32)), (.int (1 : Int32))])) _
  refine XS.icmpYes X0.here hx rfl (pc0 := 3) (pc' := 11) rfl (hb hby d7_3) rfl (feq (by decide : ¬ ((1 : Int32) = (10 : Int32)))).2 (by decide) (by decide) ?_
  refine XS.aloadN X0.here hx rfl (hb hby d7_11) rfl rfl ?_
  refine XS.iloadN X0.here hx rfl (hb hby d7_12) rfl ?_
  refine XS.aloadN X0.here hx rfl (hb hby d7_13) rfl rfl ?_
  exact k_)
 obtain ⟨cl104, Ar104, q104, S104, Ng104, H104, G104⟩ := id F4
 have hin104 := inb_of S104 (j := (1 : Int32)) ⟨by decide, by decide⟩
 obtain ⟨T104, h104, X104, e104, W104, st104⟩ := stR X0 hx hZ e0 Ar104 (j := (1 : Int32)) hin104 rfl (Sto.ofV Ar104 q104 o (Ins.of_exa X2 (own_w hw 87 rfl))) (g := (mkF m 14 #[.val (.ref a1), .val (.ref a2), .val (.ref b), .val (.int (1 : Int32))] [(.ref a2), (.int (1 : Int32)), (.ref b)])) rfl rfl (hb hby d7_14)
 have K105 : Keep h0 h104 [a1, b] := (Keep.refl h0 [a1, b]).wr W104 (Or.inl (List.mem_of_getElem? (i := 1) rfl))
 have N104 := Fr.snoc X104 N0 g2
 have V104 : Arv Z h104 b kb (.object "java/lang/Object") (10 : Int32) [(.ref x0), (.ref a2), .null, .null, .null, .null, .null, .null, .null, .null] .null := Arv.set Ar104 q104 S104 Ng104 H104 G104 rfl W104 1 rfl (Nat.le_of_ble_eq_true rfl)
 have p106 : Go p.tables e below _ (T104.setTop (mkF m 19 #[.val (.ref a1), .val (.ref a2), .val (.ref b), .val (.int (1 : Int32))] [(.int (2 : Int32)), (.ref a1)])) := fun t_ k_ => (gc p103 st104) t_ (by
  refine XS.aloadN X104.here hx rfl (hb hby d7_15) rfl rfl ?_
  refine XS.iloadN X104.here hx rfl (hb hby d7_16) rfl ?_
  refine XS.iconst X104.here hx rfl (hb hby d7_17) ?_
  refine XS.iadd X104.here hx rfl (hb hby d7_18) rfl ?_
  exact k_)
 have f107 := (F3.other W104 (Or.inl n1))
 have f108 := (F0.wr W104)
 obtain ⟨T109, h109, X109, e109, W109, st109⟩ := putF X104 hx hZ hown (host := "") (Or.inl (own_w hw 64 rfl)) Via.refl e104 f107 f108 (Or.inl (own_w hw 65 rfl)) (own_w hw 1 rfl) (ty := .int) (by decide) rfl rfl (g := (mkF m 19 #[.val (.ref a1), .val (.ref a2), .val (.ref b), .val (.int (1 : Int32))] [(.int (2 : Int32)), (.ref a1)])) rfl rfl (hb hby d7_19)
 have K110 : Keep h0 h109 [a1, b] := K105.wr W109 (Or.inl (List.mem_of_getElem? (i := 0) rfl))
 have N109 := Fr.snoc X109 N104 g1
 have F109 : Fld Z h109 a1 "java/util/ArrayList" "size" "I" (.int (2 : Int32)) := f107.same W109
 have f111 := (f108.wr W109)
 have f112 := ((F1.other W104 (Or.inl n1)).other W109 (Or.inr (slot_ne (Or.inl (own_w hw 22 rfl)) (Or.inl (own_w hw 65 rfl)) (by decide) (t := .int) (t' := .int) (by decide) (by decide))))
 have f113 := ((F2.other W104 (Or.inl n1)).other W109 (Or.inr (slot_ne (Or.inl (own_w hw 25 rfl)) (Or.inl (own_w hw 65 rfl)) (by decide) (t := (.array (.object "java/lang/Object"))) (t' := .int) (by decide) (by decide))))
 have f114 := (V104.other W109 (Ne.symm n1))
 have f115 := ((F5.wr W104).wr W109)
 obtain ⟨fs, hr, hrun, hended, hW, hsame⟩ := X109.leave (v := none) (fun _ => rfl)
 refine ⟨_, _, (gc p106 st109) _ (X109.returnOut hx Bd.returns (hb hby d7_22) hr), hrun, hended, _, _, rfl, ?_, ⟨_, rfl⟩, hW, hsame.mono (by decide) (by decide)⟩
 show Q7_1 Z a1 a2 mc b kb x0 h0 n0 _ T109.heap _
 rw [e109]
 exact ⟨rfl, N109, K110, f111, f112, f113, F109, f114, f115⟩
theorem ef_rm6_1 (m : MethodId) (a1 : Addr) (a2 : Addr) (mc : Int32) (b : Addr) (kb : ClassId) (x0 : Addr) : entryFrame m #[(.ref a1), (.ref a2)] 2 = mkF m 0 #[.val (.ref a1), .val (.ref a2)] [] := by first | (simp [entryFrame, mkF, argsToLocals, Value.category]; done) | rfl
def Q6_1 (Z : State) (a1 : Addr) (a2 : Addr) (mc : Int32) (b : Addr) (kb : ClassId) (x0 : Addr) (h0 : Heap) (n0 : Nat) (v : Option Value) (h : Heap) (L : List Loc) : Prop := v = some (.int (1 : Int32)) ∧ Fr n0 L ∧ (Keep h0 h [a1, b]) ∧ (Exa Z h a1 "java/util/ArrayList") ∧ (Fld Z h a1 "java/util/AbstractList" "modCount" "I" (.int (mc + (1 : Int32)))) ∧ (Fld Z h a1 "java/util/ArrayList" "elementData" "[Ljava/lang/Object;" (.ref b)) ∧ (Fld Z h a1 "java/util/ArrayList" "size" "I" (.int (2 : Int32))) ∧ (Arv Z h b kb (.object "java/lang/Object") (10 : Int32) [(.ref x0), (.ref a2), .null, .null, .null, .null, .null, .null, .null, .null] .null) ∧ (Exa Z h b "[Ljava/lang/Object;")
set_option maxRecDepth 65536 in
set_option maxHeartbeats 40000000 in
theorem rm6_1 (l : Launch) (Z : State) (a0 : Array Value) (hw : ∀ d ∈ tables_1, d.before a0 Z = true) (ws : List Jvm.Cond) (a1 : Addr) (a2 : Addr) (mc : Int32) (b : Addr) (kb : ClassId) (x0 : Addr) (h0 : Heap) (n0 : Nat) (Z0 : n0 ≤ h0.size) (F0 : Exa Z h0 a1 "java/util/ArrayList") (F1 : Fld Z h0 a1 "java/util/AbstractList" "modCount" "I" (.int mc)) (F2 : Fld Z h0 a1 "java/util/ArrayList" "elementData" "[Ljava/lang/Object;" (.ref b)) (F3 : Fld Z h0 a1 "java/util/ArrayList" "size" "I" (.int (1 : Int32))) (F4 : Arv Z h0 b kb (.object "java/lang/Object") (10 : Int32) [(.ref x0), .null, .null, .null, .null, .null, .null, .null, .null, .null] .null) (F5 : Exa Z h0 b "[Ljava/lang/Object;") (g1 : n0 ≤ a1) (g2 : n0 ≤ b) (n1 : a1 ≠ b) (n3 : a2 ≠ b) (o : Ovr Z kb "java/lang/Object") (X2 : Exa Z h0 a2 "com/example/arcward/arcward/model/Variable") (n2 : a1 ≠ a2) :
  MetFree l (⟨"java/util/ArrayList", "add", "(Ljava/lang/Object;)Z"⟩ : MethodName) (head1 (Jvm.Cond.code (⟨"java/util/ArrayList", "add", "(Ljava/lang/Object;)Z"⟩ : MethodName) jdk_38_method_25_code 2 (some .boolean) :: ws) ({ frames := 1, cells := 0, slots := 0, locals := 15 } : Room)) (fun a U => a = #[(.ref a1), (.ref a2)] ∧ Z.Warmed39 U.vm ∧ U.heap = h0) (fun _ _ _ _ _ => True) (fun _ U o U' => ∃ v L, o = .returned v ∧ Q6_1 Z a1 a2 mc b kb x0 h0 n0 v U'.heap L ∧ FrameEnd U o U' L ({ frames := 1, cells := 0, slots := 0, locals := 15 } : Room).cells ({ frames := 1, cells := 0, slots := 0, locals := 15 } : Room).slots) := by
 refine MetFree.of_bodySF pn6 hisR ?_
 intro p e s m args below meth c s₁ Bd hml0 hP hK
 obtain ⟨rfl, hZ, hh⟩ := hP
 have hx := Bd.exec
 have hby := Bd.bytes
 have hml : c.maxLocals = 2 := hml0
 have hown : s.vm.findClass "java/util/ArrayList" = some m.cls := findClass_of_methodNamed Bd.named
 have hnm := (name_of_methodNamed Bd.named Bd.method).1
 have X0 : Stand p l e ({ frames := 1, cells := 0, slots := 0, locals := 15 } : Room) s m #[(.ref a1), (.ref a2)] below meth c s₁ [] 0 0 := Stand.of_body Bd
 have e0 : s₁.heap = h0 := by rw [← hh, Bd.state]; rfl
 have N0 := Fr.nil n0
 have p0 : Go p.tables e below (s₁.setTop (entryFrame m #[(.ref a1), (.ref a2)] 2)) (s₁.setTop (mkF m 0 #[.val (.ref a1), .val (.ref a2)] [])) := fun t_ k_ => castTop (ef_rm6_1 m a1 a2 mc b kb x0) k_
 have p101 : Go p.tables e below _ (s₁.setTop (mkF m 2 #[.val (.ref a1), .val (.ref a2)] [(.ref a1), (.ref a1)])) := fun t_ k_ => p0 t_ (by
  refine XS.aloadN X0.here hx rfl (hb hby d6_0) rfl rfl ?_
  refine XS.dup X0.here hx rfl (hb hby d6_1) rfl rfl ?_
  exact k_)
 obtain ⟨T102, X102, e102, st102⟩ := getF X0 hx hZ hown (host := "") (Or.inl (own_w hw 62 rfl)) (Via.of (own_w hw 63 rfl)) e0 F1 (g := (mkF m 2 #[.val (.ref a1), .val (.ref a2)] [(.ref a1), (.ref a1)])) rfl rfl (hb hby d6_2)
 have p103 : Go p.tables e below _ (T102.setTop (mkF m 7 #[.val (.ref a1), .val (.ref a2)] [(.int (mc + (1 : Int32))), (.ref a1)])) := fun t_ k_ => (gc p101 st102) t_ (by
  refine XS.iconst X102.here hx rfl (hb hby d6_5) ?_
  refine XS.iadd X102.here hx rfl (hb hby d6_6) rfl ?_
  exact k_)
 obtain ⟨T104, h104, X104, e104, W104, st104⟩ := putF X102 hx hZ hown (host := "") (Or.inl (own_w hw 62 rfl)) (Via.of (own_w hw 63 rfl)) e102 F1 F0 (Or.inl (own_w hw 22 rfl)) (own_w hw 1 rfl) (ty := .int) (by decide) rfl rfl (g := (mkF m 7 #[.val (.ref a1), .val (.ref a2)] [(.int (mc + (1 : Int32))), (.ref a1)])) rfl rfl (hb hby d6_7)
 have K105 : Keep h0 h104 [a1, b] := (Keep.refl h0 [a1, b]).wr W104 (Or.inl (List.mem_of_getElem? (i := 0) rfl))
 have N104 := Fr.snoc X104 N0 g1
 have F104 : Fld Z h104 a1 "java/util/AbstractList" "modCount" "I" (.int (mc + (1 : Int32))) := F1.same W104
 have p106 : Go p.tables e below _ (T104.setTop (mkF m 13 #[.val (.ref a1), .val (.ref a2)] [(.ref a1), (.ref a2), (.ref a1)])) := fun t_ k_ => (gc p103 st104) t_ (by
  refine XS.aloadN X104.here hx rfl (hb hby d6_10) rfl rfl ?_
  refine XS.aloadN X104.here hx rfl (hb hby d6_11) rfl rfl ?_
  refine XS.aloadN X104.here hx rfl (hb hby d6_12) rfl rfl ?_
  exact k_)
 have f107 := (F2.other W104 (Or.inr (slot_ne (Or.inl (own_w hw 25 rfl)) (Or.inl (own_w hw 22 rfl)) (by decide) (t := (.array (.object "java/lang/Object"))) (t' := .int) (by decide) (by decide))))
 obtain ⟨T108, X108, e108, st108⟩ := getF X104 hx hZ hown (host := "") (Or.inl (own_w hw 24 rfl)) Via.refl e104 f107 (g := (mkF m 13 #[.val (.ref a1), .val (.ref a2)] [(.ref a1), (.ref a2), (.ref a1)])) rfl rfl (hb hby d6_13)
 have p109 : Go p.tables e below _ (T108.setTop (mkF m 17 #[.val (.ref a1), .val (.ref a2)] [(.ref a1), (.ref b), (.ref a2), (.ref a1)])) := fun t_ k_ => (gc p106 st108) t_ (by
  refine XS.aloadN X108.here hx rfl (hb hby d6_16) rfl rfl ?_
  exact k_)
 have f110 := (F3.other W104 (Or.inr (slot_ne (Or.inl (own_w hw 65 rfl)) (Or.inl (own_w hw 22 rfl)) (by decide) (t := .int) (t' := .int) (by decide) (by decide))))
 obtain ⟨T111, X111, e111, st111⟩ := getF X108 hx hZ hown (host := "") (Or.inl (own_w hw 64 rfl)) Via.refl e108 f110 (g := (mkF m 17 #[.val (.ref a1), .val (.ref a2)] [(.ref a1), (.ref b), (.ref a2), (.ref a1)])) rfl rfl (hb hby d6_17)
 have f112 := (F0.wr W104)
 have f113 := (F4.other W104 (Ne.symm n1))
 have f114 := (F5.wr W104)
 have f115 := (X2.wr W104)
 obtain ⟨cq116, q116, q116'⟩ := f112.cell
 obtain ⟨_, _, ⟨T116, L116, k116, n116⟩, -, X116, ⟨Lc116, hQ116, l116, y116, z116⟩, st116⟩ := X111.privateBack hx (y := (⟨"java/util/ArrayList", "add", "(Ljava/lang/Object;[Ljava/lang/Object;I)V"⟩ : MethodName)) hown (mvT hZ (own_w hw 66 rfl)) (mvT hZ (own_w hw 67 rfl)) (mvT hZ (own_w hw 69 rfl)) (Cond.privateMethod_at (mvP hZ (own_w hw 68 rfl) (args := #[]))) (mvT hZ (own_w hw 70 rfl)) (by decide) (backOf (W := 0) (rm7_1 l Z a0 hw [] a1 a2 (mc + (1 : Int32)) b kb x0 h104 n0 (Nat.le_trans Z0 K105.1) f112 F104 f107 f110 f113 f114 g1 g2 n1 n3 o f115 n2) hZ (own_w hw 70 rfl) (own_w hw 2 rfl) (by decide) (by decide)) (g := (mkF m 20 #[.val (.ref a1), .val (.ref a2)] [(.int (1 : Int32)), (.ref b), (.ref a2), (.ref a1)])) rfl (by rw [hml]; rfl) (Steps.refl _) (a := a1) (by rw [e111]; exact q116) q116' (argsL := [(.ref a2), (.ref b), (.int (1 : Int32))]) (rest := []) (lenOf pd4 rfl) rfl (by show 2 * 0 + _ ≤ _; exact Nat.le_of_eq rfl) (hb hby d6_20) (fun _ _ => ⟨rfl, e111, (by decide : 0 + 0 ≤ _), (by decide : 0 + 0 ≤ _)⟩)
 dsimp only [Pt.U, Pt.locs, Pt.cells, Pt.slots] at X116 l116 y116 z116 st116 hQ116
 subst l116 y116 z116
 obtain ⟨rfl, N116q, q116_K, q116_F0, q116_F1, q116_F2, q116_F3, q116_F4, q116_F5⟩ := hQ116
 have N116 := Fr.app N104 N116q
 have K117 : Keep h0 T116.heap [a1, b] := K105.trans q116_K (allS (Or.inl (List.mem_of_getElem? (i := 0) rfl)) (allS (Or.inl (List.mem_of_getElem? (i := 1) rfl)) all0))
 have p118 : Go p.tables e below _ (T116.setTop (mkF m 24 #[.val (.ref a1), .val (.ref a2)] [(.int (1 : Int32))])) := fun t_ k_ => (gcT (gc p109 st111) st116) t_ (by
  refine XS.iconst X116.here hx rfl (hb hby d6_23) ?_
  exact k_)
 obtain ⟨fs, hr, hrun, hended, hW, hsame⟩ := X116.leave (v := some (.int (1 : Int32))) (fun h => by rw [Bd.returns] at h; cases h)
 refine ⟨_, _, p118 _ (retN X116 hx (t := .boolean) Bd.returns (by simp) (hb hby d6_24) hr), hrun, hended, _, _, rfl, ?_, ⟨_, rfl⟩, hW, hsame.mono (by decide) (by decide)⟩
 show Q6_1 Z a1 a2 mc b kb x0 h0 n0 _ T116.heap _
 exact ⟨rfl, N116, K117, q116_F0, q116_F1, q116_F2, q116_F3, q116_F4, q116_F5⟩
theorem d17_0 : decode jdk_65_method_120_code 0 = .ok (.aload_n 2, 1) := by decide +kernel
theorem d17_1 : decode jdk_65_method_120_code 1 = .ok (.ldc 110, 2) := by decide +kernel
theorem d17_3 : decode jdk_65_method_120_code 3 = .ok (.if_acmp .ne 10, 3) := by decide +kernel
theorem d17_6 : decode jdk_65_method_120_code 6 = .ok (.iload_n 1, 1) := by decide +kernel
theorem d17_7 : decode jdk_65_method_120_code 7 = .ok (.anewarray 2, 3) := by decide +kernel
theorem d17_10 : decode jdk_65_method_120_code 10 = .ok (.goto 14, 3) := by decide +kernel
theorem d17_24 : decode jdk_65_method_120_code 24 = .ok (.astore_n 3, 1) := by decide +kernel
theorem d17_25 : decode jdk_65_method_120_code 25 = .ok (.aload_n 0, 1) := by decide +kernel
theorem d17_26 : decode jdk_65_method_120_code 26 = .ok (.iconst 0, 1) := by decide +kernel
theorem d17_27 : decode jdk_65_method_120_code 27 = .ok (.aload_n 3, 1) := by decide +kernel
theorem d17_28 : decode jdk_65_method_120_code 28 = .ok (.iconst 0, 1) := by decide +kernel
theorem d17_29 : decode jdk_65_method_120_code 29 = .ok (.aload_n 0, 1) := by decide +kernel
theorem d17_30 : decode jdk_65_method_120_code 30 = .ok (.arraylength, 1) := by decide +kernel
theorem d17_31 : decode jdk_65_method_120_code 31 = .ok (.iload_n 1, 1) := by decide +kernel
theorem d17_32 : decode jdk_65_method_120_code 32 = .ok (.invokestatic 304, 3) := by decide +kernel
theorem d17_35 : decode jdk_65_method_120_code 35 = .ok (.invokestatic 150, 3) := by decide +kernel
theorem d17_38 : decode jdk_65_method_120_code 38 = .ok (.aload_n 3, 1) := by decide +kernel
theorem d17_39 : decode jdk_65_method_120_code 39 = .ok (.areturn, 1) := by decide +kernel
theorem pn17 : plainFor (⟨"java/util/Arrays", "copyOf", "([Ljava/lang/Object;ILjava/lang/Class;)[Ljava/lang/Object;"⟩ : MethodName) = true := plainFor_of_name (by first | (simp [plainName, overriddenIn]; done) | decide +kernel)
theorem ef_rm17 (m : MethodId) (ed : Addr) (kd : ClassId) (x0 : Addr) (x1 : Addr) (de : Addr) (kde : ClassId) (el : Addr) (ea : Addr) (kea : ClassId) (em : Addr) (mr : Addr) : entryFrame m #[(.ref ed), (.int (2 : Int32)), (.ref mr)] 4 = mkF m 0 #[.val (.ref ed), .val (.int (2 : Int32)), .val (.ref mr), .unset] [] := by first | (simp [entryFrame, mkF, argsToLocals, Value.category]; done) | rfl
def Q17 (Z : State) (ed : Addr) (kd : ClassId) (x0 : Addr) (x1 : Addr) (de : Addr) (kde : ClassId) (el : Addr) (ea : Addr) (kea : ClassId) (em : Addr) (mr : Addr) (h0 : Heap) (n0 : Nat) (v : Option Value) (h : Heap) (L : List Loc) : Prop := ∃ (b : Addr) (kb : ClassId), v = some (.ref b) ∧ Fr n0 L ∧ (Keep h0 h []) ∧ (Arv Z h b kb (.object "java/lang/Object") (2 : Int32) [(.ref x0), (.ref x1)] .null) ∧ (n0 ≤ b) ∧ (h0.size ≤ b)
set_option maxRecDepth 65536 in
set_option maxHeartbeats 40000000 in
theorem rm17 (l : Launch) (Z : State) (a0 : Array Value) (hw : ∀ d ∈ tables_1, d.before a0 Z = true) (ws : List Jvm.Cond) (ed : Addr) (kd : ClassId) (x0 : Addr) (x1 : Addr) (de : Addr) (kde : ClassId) (el : Addr) (ea : Addr) (kea : ClassId) (em : Addr) (mr : Addr) (h0 : Heap) (n0 : Nat) (Z0 : n0 ≤ h0.size) (O1 : Old Z n0 h0) (G : own_H Z de kde el ea kea em mr) (D0 : Arv Z h0 ed kd (.object "java/lang/Object") (10 : Int32) [(.ref x0), (.ref x1), .null, .null, .null, .null, .null, .null, .null, .null] .null) (D1 : Exa Z h0 ed "[Ljava/lang/Object;") (D2 : Exa Z h0 x0 "com/example/arcward/arcward/model/Variable") (D3 : Exa Z h0 x1 "com/example/arcward/arcward/model/Variable") :
  MetFree l (⟨"java/util/Arrays", "copyOf", "([Ljava/lang/Object;ILjava/lang/Class;)[Ljava/lang/Object;"⟩ : MethodName) (head1 (Jvm.Cond.code (⟨"java/util/Arrays", "copyOf", "([Ljava/lang/Object;ILjava/lang/Class;)[Ljava/lang/Object;"⟩ : MethodName) jdk_65_method_120_code 4 (some (.array (.object "java/lang/Object"))) :: ws) ({ frames := 1, cells := 1, slots := 2, locals := 18 } : Room)) (fun a U => a = #[(.ref ed), (.int (2 : Int32)), (.ref mr)] ∧ Z.Warmed39 U.vm ∧ U.heap = h0) (fun _ _ _ _ _ => True) (fun _ U o U' => ∃ v L, o = .returned v ∧ Q17 Z ed kd x0 x1 de kde el ea kea em mr h0 n0 v U'.heap L ∧ FrameEnd U o U' L ({ frames := 1, cells := 1, slots := 2, locals := 18 } : Room).cells ({ frames := 1, cells := 1, slots := 2, locals := 18 } : Room).slots) := by
 refine MetFree.of_bodySF pn17 hisR ?_
 intro p e s m args below meth c s₁ Bd hml0 hP hK
 obtain ⟨rfl, hZ, hh⟩ := hP
 have hx := Bd.exec
 have hby := Bd.bytes
 have hml : c.maxLocals = 4 := hml0
 have hown : s.vm.findClass "java/util/Arrays" = some m.cls := findClass_of_methodNamed Bd.named
 have hnm := (name_of_methodNamed Bd.named Bd.method).1
 have X0 : Stand p l e ({ frames := 1, cells := 1, slots := 2, locals := 18 } : Room) s m #[(.ref ed), (.int (2 : Int32)), (.ref mr)] below meth c s₁ [] 0 0 := Stand.of_body Bd
 have e0 : s₁.heap = h0 := by rw [← hh, Bd.state]; rfl
 have N0 := Fr.nil n0
 have p0 : Go p.tables e below (s₁.setTop (entryFrame m #[(.ref ed), (.int (2 : Int32)), (.ref mr)] 4)) (s₁.setTop (mkF m 0 #[.val (.ref ed), .val (.int (2 : Int32)), .val (.ref mr), .unset] [])) := fun t_ k_ => castTop (ef_rm17 m ed kd x0 x1 de kde el ea kea em mr) k_
 have p101 : Go p.tables e below _ (s₁.setTop (mkF m 1 #[.val (.ref ed), .val (.int (2 : Int32)), .val (.ref mr), .unset] [(.ref mr)])) := fun t_ k_ => p0 t_ (by
  refine XS.aloadN X0.here hx rfl (hb hby d17_0) rfl rfl ?_
  exact k_)
 obtain ⟨T102, X102, e102, st102⟩ := ldcM X0 hx hZ hown (own_w hw 143 rfl) G.2.2.2.2.2.2.2.2.2 e0 (g := (mkF m 1 #[.val (.ref ed), .val (.int (2 : Int32)), .val (.ref mr), .unset] [(.ref mr)])) rfl (hb hby d17_1)
 have p103 : Go p.tables e below _ (T102.setTop (mkF m 7 #[.val (.ref ed), .val (.int (2 : Int32)), .val (.ref mr), .unset] [(.int (2 : Int32))])) := fun t_ k_ => (gc p101 st102) t_ (by
  refine Jvm.RoadKit.acmp (g := (mkF m 3 #[.val (.ref ed), .val (.int (2 : Int32)), .val (.ref mr), .unset] [(.ref mr), (.ref mr)])) X102 hx rfl rfl rfl (pc0 := 3) (pc' := 6) (same := true) rfl (hb hby d17_3) rfl (decide_eq_true rfl) (by decide) (by decide) ?_
  refine XS.iloadN X102.here hx rfl (hb hby d17_6) rfl ?_
  exact k_)
 obtain ⟨T104, h104, k104, X104, e104, E104, A104, AE104, O104, st104⟩ := newRE X102 hx hZ hown (own_w hw 144 rfl) (own_w hw 86 rfl) e102 (g := (mkF m 7 #[.val (.ref ed), .val (.int (2 : Int32)), .val (.ref mr), .unset] [(.int (2 : Int32))])) rfl (hb hby d17_7) rfl (by decide) (cap := 2) (by decide) (by decide) (by decide) (by decide) (ad := "[Ljava/lang/Object;") (by decide)
 obtain ⟨b104, g104⟩ : ∃ z, z = h0.size := ⟨_, rfl⟩
 rw [← g104] at A104 AE104 st104
 have ne_ed_b104 : ed ≠ b104 := Nat.ne_of_lt (Nat.lt_of_lt_of_le D0.lt (Nat.le_of_eq g104.symm))
 have ne_x0_b104 : x0 ≠ b104 := Nat.ne_of_lt (Nat.lt_of_lt_of_le D2.lt (Nat.le_of_eq g104.symm))
 have ne_x1_b104 : x1 ≠ b104 := Nat.ne_of_lt (Nat.lt_of_lt_of_le D3.lt (Nat.le_of_eq g104.symm))
 have ge_b104 : n0 ≤ b104 := Nat.le_trans (Nat.le_trans Z0 (Keep.refl h0 []).1) (Nat.le_of_eq g104.symm)
 have sz_b104 : h0.size ≤ b104 := Nat.le_trans (Keep.refl h0 []).1 (Nat.le_of_eq g104.symm)
 have K105 : Keep h0 h104 [] := (Keep.refl h0 []).ext E104
 have V104 : Arv Z h104 b104 k104 (.object "java/lang/Object") (2 : Int32) [.null, .null] .null := (Arv.new A104 (by decide)).pad (pad_rep [] .null 2)
 have p106 : Go p.tables e below _ (T104.setTop (mkF m 30 #[.val (.ref ed), .val (.int (2 : Int32)), .val (.ref mr), .val (.ref b104)] [(.ref ed), (.int (0 : Int32)), (.ref b104), (.int (0 : Int32)), (.ref ed)])) := fun t_ k_ => (gc p103 st104) t_ (by
  refine XS.goto X104.here hx rfl (pc0 := 10) (pc' := 24) rfl (hb hby d17_10) (by decide) (by decide) ?_
  refine XS.astoreN X104.here hx rfl (hb hby d17_24) rfl rfl (l' := #[.val (.ref ed), .val (.int (2 : Int32)), .val (.ref mr), .val (.ref b104)]) rfl ?_
  refine XS.aloadN X104.here hx rfl (hb hby d17_25) rfl rfl ?_
  refine XS.iconst X104.here hx rfl (hb hby d17_26) ?_
  refine XS.aloadN X104.here hx rfl (hb hby d17_27) rfl rfl ?_
  refine XS.iconst X104.here hx rfl (hb hby d17_28) ?_
  refine XS.aloadN X104.here hx rfl (hb hby d17_29) rfl rfl ?_
  exact k_)
 have f108 := (D0.ext E104)
 obtain ⟨cl107, Ar107, -, S107, Ng107, -, -⟩ := id f108
 have p109 : Go p.tables e below _ (T104.setTop (mkF m 32 #[.val (.ref ed), .val (.int (2 : Int32)), .val (.ref mr), .val (.ref b104)] [(.int (2 : Int32)), (.int (10 : Int32)), (.int (0 : Int32)), (.ref b104), (.int (0 : Int32)), (.ref ed)])) := fun t_ k_ => p106 t_ (by
  refine X104.arraylength hx (by rw [e104]; exact Ar107.1) (State.isArrayOf_alike hZ.alike Ar107.2.1) (g := (mkF m 30 #[.val (.ref ed), .val (.int (2 : Int32)), .val (.ref mr), .val (.ref b104)] [(.ref ed), (.int (0 : Int32)), (.ref b104), (.int (0 : Int32)), (.ref ed)])) rfl rfl (hb hby d17_30) _ ?_
  rw [len_of S107 Ng107]
  show Steps p.tables e below (T104.setTop (mkF m 31 #[.val (.ref ed), .val (.int (2 : Int32)), .val (.ref mr), .val (.ref b104)] [(.int (10 : Int32)), (.int (0 : Int32)), (.ref b104), (.int (0 : Int32)), (.ref ed)])) _
  refine XS.iloadN X104.here hx rfl (hb hby d17_31) rfl ?_
  exact k_)
 obtain ⟨_, _, ⟨T110, L110, k110, n110⟩, -, X110, ⟨Lc110, hQ110, l110, y110, z110⟩, st110⟩ := Jvm.LawKit.callS X104 hx (y := (⟨"java/lang/Math", "min", "(II)I"⟩ : MethodName)) hown (mvT hZ (own_w hw 145 rfl)) (mvT hZ (own_w hw 146 rfl)) (mvT hZ (own_w hw 83 rfl)) (mvT hZ (own_w hw 147 rfl)) (by decide) (backOf (W := 4) (rm18 l Z a0 hw []  h104 n0 (Nat.le_trans Z0 K105.1) ) hZ (own_w hw 147 rfl) (own_w hw 83 rfl) (by decide) (by decide)) (g := (mkF m 32 #[.val (.ref ed), .val (.int (2 : Int32)), .val (.ref mr), .val (.ref b104)] [(.int (2 : Int32)), (.int (10 : Int32)), (.int (0 : Int32)), (.ref b104), (.int (0 : Int32)), (.ref ed)])) rfl (by rw [hml]; rfl) (argsL := [(.int (10 : Int32)), (.int (2 : Int32))]) (rest := [(.int (0 : Int32)), (.ref b104), (.int (0 : Int32)), (.ref ed)]) (lenOf pd1 rfl) rfl (by show 2 * 0 + _ ≤ _; exact Nat.le_of_eq rfl) (hb hby d17_32) (fun _ _ => ⟨rfl, e104, (by decide : 1 + 0 ≤ _), (by decide : 2 + 0 ≤ _)⟩)
 dsimp only [Pt.U, Pt.locs, Pt.cells, Pt.slots] at X110 l110 y110 z110 st110 hQ110
 subst l110 y110 z110
 obtain ⟨rfl, N110q, q110_hh⟩ := hQ110
 have N110 := Fr.app N0 N110q
 obtain ⟨cl111, Ar111, q111, -, -, -, -⟩ := id V104
 have f112 := (D3.ext E104)
 have f113 := (D2.ext E104)
 obtain ⟨T111, h111, L111, X111, e111, N111, Kc111, V111, st111⟩ := cpA X110 hx hZ hown (own_w hw 148 rfl) (own_w hw 151 rfl) (own_w hw 149 rfl) (own_w hw 150 rfl) q110_hh f108 V104 (us := [(.ref x0), (.ref x1)]) (Or.inr ⟨rfl, rfl, ⟨Sto.ofV Ar111 q111 O104 (Ins.of_exa f113 (own_w hw 87 rfl)), ⟨Sto.ofV Ar111 q111 O104 (Ins.of_exa f112 (own_w hw 87 rfl)), trivial⟩⟩⟩) (by decide) (by decide) (by decide) (by decide) (by decide) rfl (by decide) N110 ge_b104 (g := (mkF m 35 #[.val (.ref ed), .val (.int (2 : Int32)), .val (.ref mr), .val (.ref b104)] [(.int (2 : Int32)), (.int (0 : Int32)), (.ref b104), (.int (0 : Int32)), (.ref ed)])) rfl (by rw [hml]; rfl) rfl (hb hby d17_35) (by decide) (W := 0) (by show 2 * 0 + _ ≤ _; exact Nat.le_of_eq rfl) (by decide)
 have K114 : Keep h0 h111 [] := K105.trans Kc111 (allS (Or.inr sz_b104) all0)
 have VV111 : Arv Z h111 b104 k104 (.object "java/lang/Object") (2 : Int32) [(.ref x0), (.ref x1)] .null := V111
 have p115 : Go p.tables e below _ (T111.setTop (mkF m 39 #[.val (.ref ed), .val (.int (2 : Int32)), .val (.ref mr), .val (.ref b104)] [(.ref b104)])) := fun t_ k_ => (gc (gc p109 st110) st111) t_ (by
  refine XS.aloadN X111.here hx rfl (hb hby d17_38) rfl rfl ?_
  exact k_)
 obtain ⟨fs, hr, hrun, hended, hW, hsame⟩ := X111.leave (v := some (.ref b104)) (fun h => by rw [Bd.returns] at h; cases h)
 refine ⟨_, _, p115 _ (retOut X111 hx (w := (.ref b104)) (i := .areturn) Bd.returns rfl (Or.inr (Or.inr (Or.inr (Or.inr ⟨rfl, rfl, rfl⟩)))) (hb hby d17_39) hr), hrun, hended, _, _, rfl, ?_, ⟨_, rfl⟩, hW, hsame.mono (by decide) (by decide)⟩
 show Q17 Z ed kd x0 x1 de kde el ea kea em mr h0 n0 _ T111.heap _
 rw [e111]
 exact ⟨b104, k104, rfl, N111, K114, VV111, ge_b104, sz_b104⟩
theorem d16_0 : decode jdk_65_method_119_code 0 = .ok (.aload_n 0, 1) := by decide +kernel
theorem d16_1 : decode jdk_65_method_119_code 1 = .ok (.iload_n 1, 1) := by decide +kernel
theorem d16_2 : decode jdk_65_method_119_code 2 = .ok (.aload_n 0, 1) := by decide +kernel
theorem d16_3 : decode jdk_65_method_119_code 3 = .ok (.invokevirtual 86, 3) := by decide +kernel
theorem d16_6 : decode jdk_65_method_119_code 6 = .ok (.invokestatic 300, 3) := by decide +kernel
theorem d16_9 : decode jdk_65_method_119_code 9 = .ok (.areturn, 1) := by decide +kernel
theorem pd5 : parseMethodDescriptor "([Ljava/lang/Object;ILjava/lang/Class;)[Ljava/lang/Object;" = some ⟨[(.array (.object "java/lang/Object")), .int, (.object "java/lang/Class")], some (.array (.object "java/lang/Object"))⟩ := by decide +kernel
theorem pn16 : plainFor (⟨"java/util/Arrays", "copyOf", "([Ljava/lang/Object;I)[Ljava/lang/Object;"⟩ : MethodName) = true := plainFor_of_name (by first | (simp [plainName, overriddenIn]; done) | decide +kernel)
theorem ef_rm16 (m : MethodId) (ed : Addr) (kd : ClassId) (x0 : Addr) (x1 : Addr) (de : Addr) (kde : ClassId) (el : Addr) (ea : Addr) (kea : ClassId) (em : Addr) (mr : Addr) : entryFrame m #[(.ref ed), (.int (2 : Int32))] 2 = mkF m 0 #[.val (.ref ed), .val (.int (2 : Int32))] [] := by first | (simp [entryFrame, mkF, argsToLocals, Value.category]; done) | rfl
def Q16 (Z : State) (ed : Addr) (kd : ClassId) (x0 : Addr) (x1 : Addr) (de : Addr) (kde : ClassId) (el : Addr) (ea : Addr) (kea : ClassId) (em : Addr) (mr : Addr) (h0 : Heap) (n0 : Nat) (v : Option Value) (h : Heap) (L : List Loc) : Prop := ∃ (b : Addr) (kb : ClassId), v = some (.ref b) ∧ Fr n0 L ∧ (Keep h0 h []) ∧ (Arv Z h b kb (.object "java/lang/Object") (2 : Int32) [(.ref x0), (.ref x1)] .null) ∧ (n0 ≤ b) ∧ (h0.size ≤ b)
set_option maxRecDepth 65536 in
set_option maxHeartbeats 40000000 in
theorem rm16 (l : Launch) (Z : State) (a0 : Array Value) (hw : ∀ d ∈ tables_1, d.before a0 Z = true) (ws : List Jvm.Cond) (ed : Addr) (kd : ClassId) (x0 : Addr) (x1 : Addr) (de : Addr) (kde : ClassId) (el : Addr) (ea : Addr) (kea : ClassId) (em : Addr) (mr : Addr) (h0 : Heap) (n0 : Nat) (Z0 : n0 ≤ h0.size) (O1 : Old Z n0 h0) (G : own_H Z de kde el ea kea em mr) (D0 : Arv Z h0 ed kd (.object "java/lang/Object") (10 : Int32) [(.ref x0), (.ref x1), .null, .null, .null, .null, .null, .null, .null, .null] .null) (D1 : Exa Z h0 ed "[Ljava/lang/Object;") (D2 : Exa Z h0 x0 "com/example/arcward/arcward/model/Variable") (D3 : Exa Z h0 x1 "com/example/arcward/arcward/model/Variable") :
  MetFree l (⟨"java/util/Arrays", "copyOf", "([Ljava/lang/Object;I)[Ljava/lang/Object;"⟩ : MethodName) (head1 (Jvm.Cond.code (⟨"java/util/Arrays", "copyOf", "([Ljava/lang/Object;I)[Ljava/lang/Object;"⟩ : MethodName) jdk_65_method_119_code 2 (some (.array (.object "java/lang/Object"))) :: ws) ({ frames := 2, cells := 1, slots := 2, locals := 33 } : Room)) (fun a U => a = #[(.ref ed), (.int (2 : Int32))] ∧ Z.Warmed39 U.vm ∧ U.heap = h0) (fun _ _ _ _ _ => True) (fun _ U o U' => ∃ v L, o = .returned v ∧ Q16 Z ed kd x0 x1 de kde el ea kea em mr h0 n0 v U'.heap L ∧ FrameEnd U o U' L ({ frames := 2, cells := 1, slots := 2, locals := 33 } : Room).cells ({ frames := 2, cells := 1, slots := 2, locals := 33 } : Room).slots) := by
 refine MetFree.of_bodySF pn16 hisR ?_
 intro p e s m args below meth c s₁ Bd hml0 hP hK
 obtain ⟨rfl, hZ, hh⟩ := hP
 have hx := Bd.exec
 have hby := Bd.bytes
 have hml : c.maxLocals = 2 := hml0
 have hown : s.vm.findClass "java/util/Arrays" = some m.cls := findClass_of_methodNamed Bd.named
 have hnm := (name_of_methodNamed Bd.named Bd.method).1
 have X0 : Stand p l e ({ frames := 2, cells := 1, slots := 2, locals := 33 } : Room) s m #[(.ref ed), (.int (2 : Int32))] below meth c s₁ [] 0 0 := Stand.of_body Bd
 have e0 : s₁.heap = h0 := by rw [← hh, Bd.state]; rfl
 have N0 := Fr.nil n0
 have p0 : Go p.tables e below (s₁.setTop (entryFrame m #[(.ref ed), (.int (2 : Int32))] 2)) (s₁.setTop (mkF m 0 #[.val (.ref ed), .val (.int (2 : Int32))] [])) := fun t_ k_ => castTop (ef_rm16 m ed kd x0 x1 de kde el ea kea em mr) k_
 have p101 : Go p.tables e below _ (s₁.setTop (mkF m 3 #[.val (.ref ed), .val (.int (2 : Int32))] [(.ref ed), (.int (2 : Int32)), (.ref ed)])) := fun t_ k_ => p0 t_ (by
  refine XS.aloadN X0.here hx rfl (hb hby d16_0) rfl rfl ?_
  refine XS.iloadN X0.here hx rfl (hb hby d16_1) rfl ?_
  refine XS.aloadN X0.here hx rfl (hb hby d16_2) rfl rfl ?_
  exact k_)
 obtain ⟨T102, X102, e102, st102⟩ := gcls X0 hx hZ hown (own_w hw 134 rfl) (own_w hw 135 rfl) (own_w hw 111 rfl) (own_w hw 137 rfl) (own_w hw 136 rfl) (own_w hw 138 rfl) e0 D1 G.2.2.2.2.2.2.2.2.2 (g := (mkF m 3 #[.val (.ref ed), .val (.int (2 : Int32))] [(.ref ed), (.int (2 : Int32)), (.ref ed)])) rfl (by rw [hml]; rfl) rfl (hb hby d16_3) (by decide) (W := 2) (by show 2 * 0 + _ ≤ _; exact Nat.le_of_eq rfl) (by decide)
 obtain ⟨_, _, ⟨T103, L103, k103, n103⟩, -, X103, ⟨Lc103, hQ103, l103, y103, z103⟩, st103⟩ := Jvm.LawKit.callS X102 hx (y := (⟨"java/util/Arrays", "copyOf", "([Ljava/lang/Object;ILjava/lang/Class;)[Ljava/lang/Object;"⟩ : MethodName)) hown (mvT hZ (own_w hw 140 rfl)) (mvT hZ (own_w hw 141 rfl)) (mvT hZ (own_w hw 132 rfl)) (mvT hZ (own_w hw 142 rfl)) (by decide) (backOf (W := 0) (rm17 l Z a0 hw [] ed kd x0 x1 de kde el ea kea em mr h0 n0 (Nat.le_trans Z0 (Keep.refl h0 []).1) O1 G D0 D1 D2 D3) hZ (own_w hw 142 rfl) (own_w hw 132 rfl) (by decide) (by decide)) (g := (mkF m 6 #[.val (.ref ed), .val (.int (2 : Int32))] [(.ref mr), (.int (2 : Int32)), (.ref ed)])) rfl (by rw [hml]; rfl) (argsL := [(.ref ed), (.int (2 : Int32)), (.ref mr)]) (rest := []) (lenOf pd5 rfl) rfl (by show 2 * 0 + _ ≤ _; exact Nat.le_of_eq rfl) (hb hby d16_6) (fun _ _ => ⟨rfl, e102, (by decide : 0 + 1 ≤ _), (by decide : 0 + 2 ≤ _)⟩)
 dsimp only [Pt.U, Pt.locs, Pt.cells, Pt.slots] at X103 l103 y103 z103 st103 hQ103
 subst l103 y103 z103
 obtain ⟨x104, x105, rfl, N103q, q103_K, q103_V, q103_g, q103_z⟩ := hQ103
 have N103 := Fr.app N0 N103q
 have K106 : Keep h0 T103.heap [] := (Keep.refl h0 []).trans q103_K all0
 have ne_ed_x104 : ed ≠ x104 := Nat.ne_of_lt (Nat.lt_of_lt_of_le D0.lt q103_z)
 have ne_x0_x104 : x0 ≠ x104 := Nat.ne_of_lt (Nat.lt_of_lt_of_le D2.lt q103_z)
 have ne_x1_x104 : x1 ≠ x104 := Nat.ne_of_lt (Nat.lt_of_lt_of_le D3.lt q103_z)
 obtain ⟨fs, hr, hrun, hended, hW, hsame⟩ := X103.leave (v := some (.ref x104)) (fun h => by rw [Bd.returns] at h; cases h)
 refine ⟨_, _, (gc (gc p101 st102) st103) _ (retOut X103 hx (w := (.ref x104)) (i := .areturn) Bd.returns rfl (Or.inr (Or.inr (Or.inr (Or.inr ⟨rfl, rfl, rfl⟩)))) (hb hby d16_9) hr), hrun, hended, _, _, rfl, ?_, ⟨_, rfl⟩, hW, hsame.mono (by decide) (by decide)⟩
 show Q16 Z ed kd x0 x1 de kde el ea kea em mr h0 n0 _ T103.heap _
 exact ⟨x104, x105, rfl, N103, K106, q103_V, q103_g, (Nat.le_trans (Keep.refl h0 []).1 q103_z)⟩
theorem d15_0 : decode jdk_38_method_16_code 0 = .ok (.aload_n 0, 1) := by decide +kernel
theorem d15_1 : decode jdk_38_method_16_code 1 = .ok (.getfield 9, 3) := by decide +kernel
theorem d15_4 : decode jdk_38_method_16_code 4 = .ok (.aload_n 0, 1) := by decide +kernel
theorem d15_5 : decode jdk_38_method_16_code 5 = .ok (.getfield 48, 3) := by decide +kernel
theorem d15_8 : decode jdk_38_method_16_code 8 = .ok (.invokestatic 66, 3) := by decide +kernel
theorem d15_11 : decode jdk_38_method_16_code 11 = .ok (.areturn, 1) := by decide +kernel
theorem pd6 : parseMethodDescriptor "([Ljava/lang/Object;I)[Ljava/lang/Object;" = some ⟨[(.array (.object "java/lang/Object")), .int], some (.array (.object "java/lang/Object"))⟩ := by decide +kernel
theorem pn15 : plainFor (⟨"java/util/ArrayList", "toArray", "()[Ljava/lang/Object;"⟩ : MethodName) = true := plainFor_of_name (by first | (simp [plainName, overriddenIn]; done) | decide +kernel)
theorem ef_rm15 (m : MethodId) (a1 : Addr) (mc : Int32) (ed : Addr) (kd : ClassId) (x0 : Addr) (x1 : Addr) (de : Addr) (kde : ClassId) (el : Addr) (ea : Addr) (kea : ClassId) (em : Addr) (mr : Addr) : entryFrame m #[(.ref a1)] 1 = mkF m 0 #[.val (.ref a1)] [] := by first | (simp [entryFrame, mkF, argsToLocals, Value.category]; done) | rfl
def Q15 (Z : State) (a1 : Addr) (mc : Int32) (ed : Addr) (kd : ClassId) (x0 : Addr) (x1 : Addr) (de : Addr) (kde : ClassId) (el : Addr) (ea : Addr) (kea : ClassId) (em : Addr) (mr : Addr) (h0 : Heap) (n0 : Nat) (v : Option Value) (h : Heap) (L : List Loc) : Prop := ∃ (b : Addr) (kb : ClassId), v = some (.ref b) ∧ Fr n0 L ∧ (Keep h0 h []) ∧ (Arv Z h b kb (.object "java/lang/Object") (2 : Int32) [(.ref x0), (.ref x1)] .null) ∧ (n0 ≤ b) ∧ (h0.size ≤ b)
set_option maxRecDepth 65536 in
set_option maxHeartbeats 40000000 in
theorem rm15 (l : Launch) (Z : State) (a0 : Array Value) (hw : ∀ d ∈ tables_1, d.before a0 Z = true) (ws : List Jvm.Cond) (a1 : Addr) (mc : Int32) (ed : Addr) (kd : ClassId) (x0 : Addr) (x1 : Addr) (de : Addr) (kde : ClassId) (el : Addr) (ea : Addr) (kea : ClassId) (em : Addr) (mr : Addr) (h0 : Heap) (n0 : Nat) (Z0 : n0 ≤ h0.size) (O1 : Old Z n0 h0) (G : own_H Z de kde el ea kea em mr) (A0 : Exa Z h0 a1 "java/util/ArrayList") (A1 : Fld Z h0 a1 "java/util/AbstractList" "modCount" "I" (.int mc)) (A2 : Fld Z h0 a1 "java/util/ArrayList" "elementData" "[Ljava/lang/Object;" (.ref ed)) (A3 : Fld Z h0 a1 "java/util/ArrayList" "size" "I" (.int (2 : Int32))) (A4 : Arv Z h0 ed kd (.object "java/lang/Object") (10 : Int32) [(.ref x0), (.ref x1), .null, .null, .null, .null, .null, .null, .null, .null] .null) (A5 : Exa Z h0 ed "[Ljava/lang/Object;") (A6 : Exa Z h0 x0 "com/example/arcward/arcward/model/Variable") (A7 : Exa Z h0 x1 "com/example/arcward/arcward/model/Variable") :
  MetFree l (⟨"java/util/ArrayList", "toArray", "()[Ljava/lang/Object;"⟩ : MethodName) (head1 (Jvm.Cond.code (⟨"java/util/ArrayList", "toArray", "()[Ljava/lang/Object;"⟩ : MethodName) jdk_38_method_16_code 1 (some (.array (.object "java/lang/Object"))) :: ws) ({ frames := 3, cells := 1, slots := 2, locals := 46 } : Room)) (fun a U => a = #[(.ref a1)] ∧ Z.Warmed39 U.vm ∧ U.heap = h0) (fun _ _ _ _ _ => True) (fun _ U o U' => ∃ v L, o = .returned v ∧ Q15 Z a1 mc ed kd x0 x1 de kde el ea kea em mr h0 n0 v U'.heap L ∧ FrameEnd U o U' L ({ frames := 3, cells := 1, slots := 2, locals := 46 } : Room).cells ({ frames := 3, cells := 1, slots := 2, locals := 46 } : Room).slots) := by
 refine MetFree.of_bodySF pn15 hisR ?_
 intro p e s m args below meth c s₁ Bd hml0 hP hK
 obtain ⟨rfl, hZ, hh⟩ := hP
 have hx := Bd.exec
 have hby := Bd.bytes
 have hml : c.maxLocals = 1 := hml0
 have hown : s.vm.findClass "java/util/ArrayList" = some m.cls := findClass_of_methodNamed Bd.named
 have hnm := (name_of_methodNamed Bd.named Bd.method).1
 have X0 : Stand p l e ({ frames := 3, cells := 1, slots := 2, locals := 46 } : Room) s m #[(.ref a1)] below meth c s₁ [] 0 0 := Stand.of_body Bd
 have e0 : s₁.heap = h0 := by rw [← hh, Bd.state]; rfl
 have N0 := Fr.nil n0
 have p0 : Go p.tables e below (s₁.setTop (entryFrame m #[(.ref a1)] 1)) (s₁.setTop (mkF m 0 #[.val (.ref a1)] [])) := fun t_ k_ => castTop (ef_rm15 m a1 mc ed kd x0 x1 de kde el ea kea em mr) k_
 have p101 : Go p.tables e below _ (s₁.setTop (mkF m 1 #[.val (.ref a1)] [(.ref a1)])) := fun t_ k_ => p0 t_ (by
  refine XS.aloadN X0.here hx rfl (hb hby d15_0) rfl rfl ?_
  exact k_)
 obtain ⟨T102, X102, e102, st102⟩ := getF X0 hx hZ hown (host := "") (Or.inl (own_w hw 24 rfl)) Via.refl e0 A2 (g := (mkF m 1 #[.val (.ref a1)] [(.ref a1)])) rfl rfl (hb hby d15_1)
 have p103 : Go p.tables e below _ (T102.setTop (mkF m 5 #[.val (.ref a1)] [(.ref a1), (.ref ed)])) := fun t_ k_ => (gc p101 st102) t_ (by
  refine XS.aloadN X102.here hx rfl (hb hby d15_4) rfl rfl ?_
  exact k_)
 obtain ⟨T104, X104, e104, st104⟩ := getF X102 hx hZ hown (host := "") (Or.inl (own_w hw 64 rfl)) Via.refl e102 A3 (g := (mkF m 5 #[.val (.ref a1)] [(.ref a1), (.ref ed)])) rfl rfl (hb hby d15_5)
 obtain ⟨_, _, ⟨T105, L105, k105, n105⟩, -, X105, ⟨Lc105, hQ105, l105, y105, z105⟩, st105⟩ := Jvm.LawKit.callS X104 hx (y := (⟨"java/util/Arrays", "copyOf", "([Ljava/lang/Object;I)[Ljava/lang/Object;"⟩ : MethodName)) hown (mvT hZ (own_w hw 130 rfl)) (mvT hZ (own_w hw 131 rfl)) (mvT hZ (own_w hw 132 rfl)) (mvT hZ (own_w hw 133 rfl)) (by decide) (backOf (W := 0) (rm16 l Z a0 hw [] ed kd x0 x1 de kde el ea kea em mr h0 n0 (Nat.le_trans Z0 (Keep.refl h0 []).1) O1 G A4 A5 A6 A7) hZ (own_w hw 133 rfl) (own_w hw 132 rfl) (by decide) (by decide)) (g := (mkF m 8 #[.val (.ref a1)] [(.int (2 : Int32)), (.ref ed)])) rfl (by rw [hml]; rfl) (argsL := [(.ref ed), (.int (2 : Int32))]) (rest := []) (lenOf pd6 rfl) rfl (by show 2 * 0 + _ ≤ _; exact Nat.le_of_eq rfl) (hb hby d15_8) (fun _ _ => ⟨rfl, e104, (by decide : 0 + 1 ≤ _), (by decide : 0 + 2 ≤ _)⟩)
 dsimp only [Pt.U, Pt.locs, Pt.cells, Pt.slots] at X105 l105 y105 z105 st105 hQ105
 subst l105 y105 z105
 obtain ⟨x106, x107, rfl, N105q, q105_K, q105_V, q105_g, q105_z⟩ := hQ105
 have N105 := Fr.app N0 N105q
 have K108 : Keep h0 T105.heap [] := (Keep.refl h0 []).trans q105_K all0
 have ne_a1_x106 : a1 ≠ x106 := Nat.ne_of_lt (Nat.lt_of_lt_of_le A0.lt q105_z)
 have ne_ed_x106 : ed ≠ x106 := Nat.ne_of_lt (Nat.lt_of_lt_of_le A4.lt q105_z)
 have ne_x0_x106 : x0 ≠ x106 := Nat.ne_of_lt (Nat.lt_of_lt_of_le A6.lt q105_z)
 have ne_x1_x106 : x1 ≠ x106 := Nat.ne_of_lt (Nat.lt_of_lt_of_le A7.lt q105_z)
 obtain ⟨fs, hr, hrun, hended, hW, hsame⟩ := X105.leave (v := some (.ref x106)) (fun h => by rw [Bd.returns] at h; cases h)
 refine ⟨_, _, (gc (gc p103 st104) st105) _ (retOut X105 hx (w := (.ref x106)) (i := .areturn) Bd.returns rfl (Or.inr (Or.inr (Or.inr (Or.inr ⟨rfl, rfl, rfl⟩)))) (hb hby d15_11) hr), hrun, hended, _, _, rfl, ?_, ⟨_, rfl⟩, hW, hsame.mono (by decide) (by decide)⟩
 show Q15 Z a1 mc ed kd x0 x1 de kde el ea kea em mr h0 n0 _ T105.heap _
 exact ⟨x106, x107, rfl, N105, K108, q105_V, q105_g, (Nat.le_trans (Keep.refl h0 []).1 q105_z)⟩
theorem d14_0 : decode jdk_38_method_9_code 0 = .ok (.aload_n 0, 1) := by decide +kernel
theorem d14_1 : decode jdk_38_method_9_code 1 = .ok (.getfield 48, 3) := by decide +kernel
theorem d14_4 : decode jdk_38_method_9_code 4 = .ok (.ifCond .ne 7, 3) := by decide +kernel
theorem d14_11 : decode jdk_38_method_9_code 11 = .ok (.iconst 0, 1) := by decide +kernel
theorem d14_12 : decode jdk_38_method_9_code 12 = .ok (.ireturn, 1) := by decide +kernel
theorem pn14 : plainFor (⟨"java/util/ArrayList", "isEmpty", "()Z"⟩ : MethodName) = true := plainFor_of_name (by first | (simp [plainName, overriddenIn]; done) | decide +kernel)
theorem ef_rm14_2 (m : MethodId) (a1 : Addr) : entryFrame m #[(.ref a1)] 1 = mkF m 0 #[.val (.ref a1)] [] := by first | (simp [entryFrame, mkF, argsToLocals, Value.category]; done) | rfl
def Q14_2 (Z : State) (a1 : Addr) (h0 : Heap) (n0 : Nat) (v : Option Value) (h : Heap) (L : List Loc) : Prop := v = some (.int (0 : Int32)) ∧ Fr n0 L ∧ (h = h0)
set_option maxRecDepth 65536 in
set_option maxHeartbeats 40000000 in
theorem rm14_2 (l : Launch) (Z : State) (a0 : Array Value) (hw : ∀ d ∈ tables_1, d.before a0 Z = true) (ws : List Jvm.Cond) (a1 : Addr) (h0 : Heap) (n0 : Nat) (Z0 : n0 ≤ h0.size) (Fs : Fld Z h0 a1 "java/util/ArrayList" "size" "I" (.int (2 : Int32))) :
  MetFree l (⟨"java/util/ArrayList", "isEmpty", "()Z"⟩ : MethodName) (head1 (Jvm.Cond.code (⟨"java/util/ArrayList", "isEmpty", "()Z"⟩ : MethodName) jdk_38_method_9_code 1 (some .boolean) :: ws) ({ frames := 0, cells := 0, slots := 0, locals := 0 } : Room)) (fun a U => a = #[(.ref a1)] ∧ Z.Warmed39 U.vm ∧ U.heap = h0) (fun _ _ _ _ _ => True) (fun _ U o U' => ∃ v L, o = .returned v ∧ Q14_2 Z a1 h0 n0 v U'.heap L ∧ FrameEnd U o U' L ({ frames := 0, cells := 0, slots := 0, locals := 0 } : Room).cells ({ frames := 0, cells := 0, slots := 0, locals := 0 } : Room).slots) := by
 refine MetFree.of_bodySF pn14 hisR ?_
 intro p e s m args below meth c s₁ Bd hml0 hP hK
 obtain ⟨rfl, hZ, hh⟩ := hP
 have hx := Bd.exec
 have hby := Bd.bytes
 have hml : c.maxLocals = 1 := hml0
 have hown : s.vm.findClass "java/util/ArrayList" = some m.cls := findClass_of_methodNamed Bd.named
 have hnm := (name_of_methodNamed Bd.named Bd.method).1
 have X0 : Stand p l e ({ frames := 0, cells := 0, slots := 0, locals := 0 } : Room) s m #[(.ref a1)] below meth c s₁ [] 0 0 := Stand.of_body Bd
 have e0 : s₁.heap = h0 := by rw [← hh, Bd.state]; rfl
 have N0 := Fr.nil n0
 have p0 : Go p.tables e below (s₁.setTop (entryFrame m #[(.ref a1)] 1)) (s₁.setTop (mkF m 0 #[.val (.ref a1)] [])) := fun t_ k_ => castTop (ef_rm14_2 m a1) k_
 have p101 : Go p.tables e below _ (s₁.setTop (mkF m 1 #[.val (.ref a1)] [(.ref a1)])) := fun t_ k_ => p0 t_ (by
  refine XS.aloadN X0.here hx rfl (hb hby d14_0) rfl rfl ?_
  exact k_)
 obtain ⟨T102, X102, e102, st102⟩ := getF X0 hx hZ hown (host := "") (Or.inl (own_w hw 64 rfl)) Via.refl e0 Fs (g := (mkF m 1 #[.val (.ref a1)] [(.ref a1)])) rfl rfl (hb hby d14_1)
 have p103 : Go p.tables e below _ (T102.setTop (mkF m 12 #[.val (.ref a1)] [(.int (0 : Int32))])) := fun t_ k_ => (gc p101 st102) t_ (by
  refine XS.ifYes X102.here hx rfl (pc0 := 4) (pc' := 11) rfl (hb hby d14_4) rfl ((if0 _ _).trans (feq (by decide : ¬ ((2 : Int32) = (0 : Int32)))).2) (by decide) (by decide) ?_
  refine XS.iconst X102.here hx rfl (hb hby d14_11) ?_
  exact k_)
 obtain ⟨fs, hr, hrun, hended, hW, hsame⟩ := X102.leave (v := some (.int (0 : Int32))) (fun h => by rw [Bd.returns] at h; cases h)
 refine ⟨_, _, p103 _ (retN X102 hx (t := .boolean) Bd.returns (by simp) (hb hby d14_12) hr), hrun, hended, _, _, rfl, ?_, ⟨_, rfl⟩, hW, hsame.mono (by decide) (by decide)⟩
 show Q14_2 Z a1 h0 n0 _ T102.heap _
 rw [e102]
 exact ⟨rfl, N0, rfl⟩
theorem d14_7 : decode jdk_38_method_9_code 7 = .ok (.iconst 1, 1) := by decide +kernel
theorem d14_8 : decode jdk_38_method_9_code 8 = .ok (.goto 4, 3) := by decide +kernel
theorem ef_rm14_0 (m : MethodId) (a1 : Addr) : entryFrame m #[(.ref a1)] 1 = mkF m 0 #[.val (.ref a1)] [] := by first | (simp [entryFrame, mkF, argsToLocals, Value.category]; done) | rfl
def Q14_0 (Z : State) (a1 : Addr) (h0 : Heap) (n0 : Nat) (v : Option Value) (h : Heap) (L : List Loc) : Prop := v = some (.int (1 : Int32)) ∧ Fr n0 L ∧ (h = h0)
set_option maxRecDepth 65536 in
set_option maxHeartbeats 40000000 in
theorem rm14_0 (l : Launch) (Z : State) (a0 : Array Value) (hw : ∀ d ∈ tables_1, d.before a0 Z = true) (ws : List Jvm.Cond) (a1 : Addr) (h0 : Heap) (n0 : Nat) (Z0 : n0 ≤ h0.size) (Fs : Fld Z h0 a1 "java/util/ArrayList" "size" "I" (.int (0 : Int32))) :
  MetFree l (⟨"java/util/ArrayList", "isEmpty", "()Z"⟩ : MethodName) (head1 (Jvm.Cond.code (⟨"java/util/ArrayList", "isEmpty", "()Z"⟩ : MethodName) jdk_38_method_9_code 1 (some .boolean) :: ws) ({ frames := 0, cells := 0, slots := 0, locals := 0 } : Room)) (fun a U => a = #[(.ref a1)] ∧ Z.Warmed39 U.vm ∧ U.heap = h0) (fun _ _ _ _ _ => True) (fun _ U o U' => ∃ v L, o = .returned v ∧ Q14_0 Z a1 h0 n0 v U'.heap L ∧ FrameEnd U o U' L ({ frames := 0, cells := 0, slots := 0, locals := 0 } : Room).cells ({ frames := 0, cells := 0, slots := 0, locals := 0 } : Room).slots) := by
 refine MetFree.of_bodySF pn14 hisR ?_
 intro p e s m args below meth c s₁ Bd hml0 hP hK
 obtain ⟨rfl, hZ, hh⟩ := hP
 have hx := Bd.exec
 have hby := Bd.bytes
 have hml : c.maxLocals = 1 := hml0
 have hown : s.vm.findClass "java/util/ArrayList" = some m.cls := findClass_of_methodNamed Bd.named
 have hnm := (name_of_methodNamed Bd.named Bd.method).1
 have X0 : Stand p l e ({ frames := 0, cells := 0, slots := 0, locals := 0 } : Room) s m #[(.ref a1)] below meth c s₁ [] 0 0 := Stand.of_body Bd
 have e0 : s₁.heap = h0 := by rw [← hh, Bd.state]; rfl
 have N0 := Fr.nil n0
 have p0 : Go p.tables e below (s₁.setTop (entryFrame m #[(.ref a1)] 1)) (s₁.setTop (mkF m 0 #[.val (.ref a1)] [])) := fun t_ k_ => castTop (ef_rm14_0 m a1) k_
 have p101 : Go p.tables e below _ (s₁.setTop (mkF m 1 #[.val (.ref a1)] [(.ref a1)])) := fun t_ k_ => p0 t_ (by
  refine XS.aloadN X0.here hx rfl (hb hby d14_0) rfl rfl ?_
  exact k_)
 obtain ⟨T102, X102, e102, st102⟩ := getF X0 hx hZ hown (host := "") (Or.inl (own_w hw 64 rfl)) Via.refl e0 Fs (g := (mkF m 1 #[.val (.ref a1)] [(.ref a1)])) rfl rfl (hb hby d14_1)
 have p103 : Go p.tables e below _ (T102.setTop (mkF m 12 #[.val (.ref a1)] [(.int (1 : Int32))])) := fun t_ k_ => (gc p101 st102) t_ (by
  refine XS.ifNo X102.here hx rfl (hb hby d14_4) rfl ((if0 _ _).trans (teq (by decide : ((0 : Int32) = (0 : Int32)))).2) ?_
  refine XS.iconst X102.here hx rfl (hb hby d14_7) ?_
  refine XS.goto X102.here hx rfl (pc0 := 8) (pc' := 12) rfl (hb hby d14_8) (by decide) (by decide) ?_
  exact k_)
 obtain ⟨fs, hr, hrun, hended, hW, hsame⟩ := X102.leave (v := some (.int (1 : Int32))) (fun h => by rw [Bd.returns] at h; cases h)
 refine ⟨_, _, p103 _ (retN X102 hx (t := .boolean) Bd.returns (by simp) (hb hby d14_12) hr), hrun, hended, _, _, rfl, ?_, ⟨_, rfl⟩, hW, hsame.mono (by decide) (by decide)⟩
 show Q14_0 Z a1 h0 n0 _ T102.heap _
 rw [e102]
 exact ⟨rfl, N0, rfl⟩
theorem d22_0 : decode jdk_47_method_1_code 0 = .ok (.aload_n 0, 1) := by decide +kernel
theorem d22_1 : decode jdk_47_method_1_code 1 = .ok (.invokespecial 1, 3) := by decide +kernel
theorem d22_4 : decode jdk_47_method_1_code 4 = .ok (.return_, 1) := by decide +kernel
theorem pn22 : plainFor (⟨"java/util/ImmutableCollections$AbstractImmutableCollection", "<init>", "()V"⟩ : MethodName) = true := plainFor_of_name (by first | (simp [plainName, overriddenIn]; done) | decide +kernel)
theorem ef_rm22 (m : MethodId) (a1 : Addr) : entryFrame m #[(.ref a1)] 1 = mkF m 0 #[.val (.ref a1)] [] := by first | (simp [entryFrame, mkF, argsToLocals, Value.category]; done) | rfl
def Q22 (Z : State) (a1 : Addr) (h0 : Heap) (n0 : Nat) (v : Option Value) (h : Heap) (L : List Loc) : Prop := v = none ∧ Fr n0 L ∧ (h = h0)
set_option maxRecDepth 65536 in
set_option maxHeartbeats 40000000 in
theorem rm22 (l : Launch) (Z : State) (a0 : Array Value) (hw : ∀ d ∈ tables_1, d.before a0 Z = true) (ws : List Jvm.Cond) (a1 : Addr) (h0 : Heap) (n0 : Nat) (Z0 : n0 ≤ h0.size) :
  MetFree l (⟨"java/util/ImmutableCollections$AbstractImmutableCollection", "<init>", "()V"⟩ : MethodName) (head1 (Jvm.Cond.code (⟨"java/util/ImmutableCollections$AbstractImmutableCollection", "<init>", "()V"⟩ : MethodName) jdk_47_method_1_code 1 none :: ws) ({ frames := 2, cells := 0, slots := 0, locals := 24 } : Room)) (fun a U => a = #[(.ref a1)] ∧ Z.Warmed39 U.vm ∧ U.heap = h0) (fun _ _ _ _ _ => True) (fun _ U o U' => ∃ v L, o = .returned v ∧ Q22 Z a1 h0 n0 v U'.heap L ∧ FrameEnd U o U' L ({ frames := 2, cells := 0, slots := 0, locals := 24 } : Room).cells ({ frames := 2, cells := 0, slots := 0, locals := 24 } : Room).slots) := by
 refine MetFree.of_bodySF pn22 hisR ?_
 intro p e s m args below meth c s₁ Bd hml0 hP hK
 obtain ⟨rfl, hZ, hh⟩ := hP
 have hx := Bd.exec
 have hby := Bd.bytes
 have hml : c.maxLocals = 1 := hml0
 have hown : s.vm.findClass "java/util/ImmutableCollections$AbstractImmutableCollection" = some m.cls := findClass_of_methodNamed Bd.named
 have hnm := (name_of_methodNamed Bd.named Bd.method).1
 have X0 : Stand p l e ({ frames := 2, cells := 0, slots := 0, locals := 24 } : Room) s m #[(.ref a1)] below meth c s₁ [] 0 0 := Stand.of_body Bd
 have e0 : s₁.heap = h0 := by rw [← hh, Bd.state]; rfl
 have N0 := Fr.nil n0
 have p0 : Go p.tables e below (s₁.setTop (entryFrame m #[(.ref a1)] 1)) (s₁.setTop (mkF m 0 #[.val (.ref a1)] [])) := fun t_ k_ => castTop (ef_rm22 m a1) k_
 have p101 : Go p.tables e below _ (s₁.setTop (mkF m 1 #[.val (.ref a1)] [(.ref a1)])) := fun t_ k_ => p0 t_ (by
  refine XS.aloadN X0.here hx rfl (hb hby d22_0) rfl rfl ?_
  exact k_)
 obtain ⟨_, _, ⟨T102, L102, k102, n102⟩, -, X102, ⟨Lc102, hQ102, l102, y102, z102⟩, st102⟩ := X0.specialBack hx (y := (⟨"java/util/AbstractCollection", "<init>", "()V"⟩ : MethodName)) rfl hown (mvT hZ (own_w hw 174 rfl)) (mvT hZ (own_w hw 13 rfl)) (mvT hZ (own_w hw 17 rfl)) (by decide) (backOf (W := 0) (rm3 l Z a0 hw [] a1 h0 n0 (Nat.le_trans Z0 (Keep.refl h0 []).1) ) hZ (own_w hw 17 rfl) (own_w hw 16 rfl) (by decide) (by decide)) (g := (mkF m 1 #[.val (.ref a1)] [(.ref a1)])) rfl (by rw [hml]; rfl) (Steps.refl _) (a := a1) (argsL := []) (rest := []) (lenOf pd0 rfl) rfl (by show 2 * 0 + _ ≤ _; exact Nat.le_of_eq rfl) (hb hby d22_1) (fun _ _ => ⟨rfl, e0, (by decide : 0 + 0 ≤ _), (by decide : 0 + 0 ≤ _)⟩)
 dsimp only [Pt.U, Pt.locs, Pt.cells, Pt.slots] at X102 l102 y102 z102 st102 hQ102
 subst l102 y102 z102
 obtain ⟨rfl, N102q, q102_hh⟩ := hQ102
 have N102 := Fr.app N0 N102q
 obtain ⟨fs, hr, hrun, hended, hW, hsame⟩ := X102.leave (v := none) (fun _ => rfl)
 refine ⟨_, _, (gcT p101 st102) _ (X102.returnOut hx Bd.returns (hb hby d22_4) hr), hrun, hended, _, _, rfl, ?_, ⟨_, rfl⟩, hW, hsame.mono (by decide) (by decide)⟩
 show Q22 Z a1 h0 n0 _ T102.heap _
 rw [q102_hh]
 exact ⟨rfl, N102, rfl⟩
theorem d21_0 : decode jdk_46_method_1_code 0 = .ok (.aload_n 0, 1) := by decide +kernel
theorem d21_1 : decode jdk_46_method_1_code 1 = .ok (.invokespecial 1, 3) := by decide +kernel
theorem d21_4 : decode jdk_46_method_1_code 4 = .ok (.return_, 1) := by decide +kernel
theorem pn21 : plainFor (⟨"java/util/ImmutableCollections$AbstractImmutableList", "<init>", "()V"⟩ : MethodName) = true := plainFor_of_name (by first | (simp [plainName, overriddenIn]; done) | decide +kernel)
theorem ef_rm21 (m : MethodId) (a1 : Addr) : entryFrame m #[(.ref a1)] 1 = mkF m 0 #[.val (.ref a1)] [] := by first | (simp [entryFrame, mkF, argsToLocals, Value.category]; done) | rfl
def Q21 (Z : State) (a1 : Addr) (h0 : Heap) (n0 : Nat) (v : Option Value) (h : Heap) (L : List Loc) : Prop := v = none ∧ Fr n0 L ∧ (h = h0)
set_option maxRecDepth 65536 in
set_option maxHeartbeats 40000000 in
theorem rm21 (l : Launch) (Z : State) (a0 : Array Value) (hw : ∀ d ∈ tables_1, d.before a0 Z = true) (ws : List Jvm.Cond) (a1 : Addr) (h0 : Heap) (n0 : Nat) (Z0 : n0 ≤ h0.size) :
  MetFree l (⟨"java/util/ImmutableCollections$AbstractImmutableList", "<init>", "()V"⟩ : MethodName) (head1 (Jvm.Cond.code (⟨"java/util/ImmutableCollections$AbstractImmutableList", "<init>", "()V"⟩ : MethodName) jdk_46_method_1_code 1 none :: ws) ({ frames := 3, cells := 0, slots := 0, locals := 36 } : Room)) (fun a U => a = #[(.ref a1)] ∧ Z.Warmed39 U.vm ∧ U.heap = h0) (fun _ _ _ _ _ => True) (fun _ U o U' => ∃ v L, o = .returned v ∧ Q21 Z a1 h0 n0 v U'.heap L ∧ FrameEnd U o U' L ({ frames := 3, cells := 0, slots := 0, locals := 36 } : Room).cells ({ frames := 3, cells := 0, slots := 0, locals := 36 } : Room).slots) := by
 refine MetFree.of_bodySF pn21 hisR ?_
 intro p e s m args below meth c s₁ Bd hml0 hP hK
 obtain ⟨rfl, hZ, hh⟩ := hP
 have hx := Bd.exec
 have hby := Bd.bytes
 have hml : c.maxLocals = 1 := hml0
 have hown : s.vm.findClass "java/util/ImmutableCollections$AbstractImmutableList" = some m.cls := findClass_of_methodNamed Bd.named
 have hnm := (name_of_methodNamed Bd.named Bd.method).1
 have X0 : Stand p l e ({ frames := 3, cells := 0, slots := 0, locals := 36 } : Room) s m #[(.ref a1)] below meth c s₁ [] 0 0 := Stand.of_body Bd
 have e0 : s₁.heap = h0 := by rw [← hh, Bd.state]; rfl
 have N0 := Fr.nil n0
 have p0 : Go p.tables e below (s₁.setTop (entryFrame m #[(.ref a1)] 1)) (s₁.setTop (mkF m 0 #[.val (.ref a1)] [])) := fun t_ k_ => castTop (ef_rm21 m a1) k_
 have p101 : Go p.tables e below _ (s₁.setTop (mkF m 1 #[.val (.ref a1)] [(.ref a1)])) := fun t_ k_ => p0 t_ (by
  refine XS.aloadN X0.here hx rfl (hb hby d21_0) rfl rfl ?_
  exact k_)
 obtain ⟨_, _, ⟨T102, L102, k102, n102⟩, -, X102, ⟨Lc102, hQ102, l102, y102, z102⟩, st102⟩ := X0.specialBack hx (y := (⟨"java/util/ImmutableCollections$AbstractImmutableCollection", "<init>", "()V"⟩ : MethodName)) rfl hown (mvT hZ (own_w hw 168 rfl)) (mvT hZ (own_w hw 169 rfl)) (mvT hZ (own_w hw 173 rfl)) (by decide) (backOf (W := 0) (rm22 l Z a0 hw [] a1 h0 n0 (Nat.le_trans Z0 (Keep.refl h0 []).1) ) hZ (own_w hw 173 rfl) (own_w hw 172 rfl) (by decide) (by decide)) (g := (mkF m 1 #[.val (.ref a1)] [(.ref a1)])) rfl (by rw [hml]; rfl) (Steps.refl _) (a := a1) (argsL := []) (rest := []) (lenOf pd0 rfl) rfl (by show 2 * 0 + _ ≤ _; exact Nat.le_of_eq rfl) (hb hby d21_1) (fun _ _ => ⟨rfl, e0, (by decide : 0 + 0 ≤ _), (by decide : 0 + 0 ≤ _)⟩)
 dsimp only [Pt.U, Pt.locs, Pt.cells, Pt.slots] at X102 l102 y102 z102 st102 hQ102
 subst l102 y102 z102
 obtain ⟨rfl, N102q, q102_hh⟩ := hQ102
 have N102 := Fr.app N0 N102q
 obtain ⟨fs, hr, hrun, hended, hW, hsame⟩ := X102.leave (v := none) (fun _ => rfl)
 refine ⟨_, _, (gcT p101 st102) _ (X102.returnOut hx Bd.returns (hb hby d21_4) hr), hrun, hended, _, _, rfl, ?_, ⟨_, rfl⟩, hW, hsame.mono (by decide) (by decide)⟩
 show Q21 Z a1 h0 n0 _ T102.heap _
 rw [q102_hh]
 exact ⟨rfl, N102, rfl⟩
theorem d23_0 : decode jdk_31_method_10_code 0 = .ok (.aload_n 0, 1) := by decide +kernel
theorem d23_1 : decode jdk_31_method_10_code 1 = .ok (.ifnonnull 11, 3) := by decide +kernel
theorem d23_12 : decode jdk_31_method_10_code 12 = .ok (.aload_n 0, 1) := by decide +kernel
theorem d23_13 : decode jdk_31_method_10_code 13 = .ok (.areturn, 1) := by decide +kernel
theorem pn23 : plainFor (⟨"java/util/Objects", "requireNonNull", "(Ljava/lang/Object;)Ljava/lang/Object;"⟩ : MethodName) = true := plainFor_of_name (by first | (simp [plainName, overriddenIn]; done) | decide +kernel)
theorem ef_rm23 (m : MethodId) (a1 : Addr) : entryFrame m #[(.ref a1)] 1 = mkF m 0 #[.val (.ref a1)] [] := by first | (simp [entryFrame, mkF, argsToLocals, Value.category]; done) | rfl
def Q23 (Z : State) (a1 : Addr) (h0 : Heap) (n0 : Nat) (v : Option Value) (h : Heap) (L : List Loc) : Prop := v = some (.ref a1) ∧ Fr n0 L ∧ (h = h0)
set_option maxRecDepth 65536 in
set_option maxHeartbeats 40000000 in
theorem rm23 (l : Launch) (Z : State) (a0 : Array Value) (hw : ∀ d ∈ tables_1, d.before a0 Z = true) (ws : List Jvm.Cond) (a1 : Addr) (h0 : Heap) (n0 : Nat) (Z0 : n0 ≤ h0.size) :
  MetFree l (⟨"java/util/Objects", "requireNonNull", "(Ljava/lang/Object;)Ljava/lang/Object;"⟩ : MethodName) (head1 (Jvm.Cond.code (⟨"java/util/Objects", "requireNonNull", "(Ljava/lang/Object;)Ljava/lang/Object;"⟩ : MethodName) jdk_31_method_10_code 1 (some (.object "java/lang/Object")) :: ws) ({ frames := 0, cells := 0, slots := 0, locals := 0 } : Room)) (fun a U => a = #[(.ref a1)] ∧ Z.Warmed39 U.vm ∧ U.heap = h0) (fun _ _ _ _ _ => True) (fun _ U o U' => ∃ v L, o = .returned v ∧ Q23 Z a1 h0 n0 v U'.heap L ∧ FrameEnd U o U' L ({ frames := 0, cells := 0, slots := 0, locals := 0 } : Room).cells ({ frames := 0, cells := 0, slots := 0, locals := 0 } : Room).slots) := by
 refine MetFree.of_bodySF pn23 hisR ?_
 intro p e s m args below meth c s₁ Bd hml0 hP hK
 obtain ⟨rfl, hZ, hh⟩ := hP
 have hx := Bd.exec
 have hby := Bd.bytes
 have hml : c.maxLocals = 1 := hml0
 have hown : s.vm.findClass "java/util/Objects" = some m.cls := findClass_of_methodNamed Bd.named
 have hnm := (name_of_methodNamed Bd.named Bd.method).1
 have X0 : Stand p l e ({ frames := 0, cells := 0, slots := 0, locals := 0 } : Room) s m #[(.ref a1)] below meth c s₁ [] 0 0 := Stand.of_body Bd
 have e0 : s₁.heap = h0 := by rw [← hh, Bd.state]; rfl
 have N0 := Fr.nil n0
 have p0 : Go p.tables e below (s₁.setTop (entryFrame m #[(.ref a1)] 1)) (s₁.setTop (mkF m 0 #[.val (.ref a1)] [])) := fun t_ k_ => castTop (ef_rm23 m a1) k_
 have p101 : Go p.tables e below _ (s₁.setTop (mkF m 13 #[.val (.ref a1)] [(.ref a1)])) := fun t_ k_ => p0 t_ (by
  refine XS.aloadN X0.here hx rfl (hb hby d23_0) rfl rfl ?_
  refine XS.ifnonnullYes X0.here hx rfl (pc0 := 1) (pc' := 12) rfl (hb hby d23_1) rfl (by decide) (by decide) ?_
  refine XS.aloadN X0.here hx rfl (hb hby d23_12) rfl rfl ?_
  exact k_)
 obtain ⟨fs, hr, hrun, hended, hW, hsame⟩ := X0.leave (v := some (.ref a1)) (fun h => by rw [Bd.returns] at h; cases h)
 refine ⟨_, _, p101 _ (retOut X0 hx (w := (.ref a1)) (i := .areturn) Bd.returns rfl (Or.inr (Or.inr (Or.inr (Or.inr ⟨rfl, rfl, rfl⟩)))) (hb hby d23_13) hr), hrun, hended, _, _, rfl, ?_, ⟨_, rfl⟩, hW, hsame.mono (by decide) (by decide)⟩
 show Q23 Z a1 h0 n0 _ s₁.heap _
 rw [e0]
 exact ⟨rfl, N0, rfl⟩
theorem d20_0 : decode jdk_44_method_2_code 0 = .ok (.aload_n 0, 1) := by decide +kernel
theorem d20_1 : decode jdk_44_method_2_code 1 = .ok (.invokespecial 1, 3) := by decide +kernel
theorem d20_4 : decode jdk_44_method_2_code 4 = .ok (.aload_n 0, 1) := by decide +kernel
theorem d20_5 : decode jdk_44_method_2_code 5 = .ok (.aload_n 1, 1) := by decide +kernel
theorem d20_6 : decode jdk_44_method_2_code 6 = .ok (.invokestatic 7, 3) := by decide +kernel
theorem d20_9 : decode jdk_44_method_2_code 9 = .ok (.putfield 13, 3) := by decide +kernel
theorem d20_12 : decode jdk_44_method_2_code 12 = .ok (.aload_n 0, 1) := by decide +kernel
theorem d20_13 : decode jdk_44_method_2_code 13 = .ok (.aload_n 2, 1) := by decide +kernel
theorem d20_14 : decode jdk_44_method_2_code 14 = .ok (.invokestatic 7, 3) := by decide +kernel
theorem d20_17 : decode jdk_44_method_2_code 17 = .ok (.putfield 24, 3) := by decide +kernel
theorem d20_20 : decode jdk_44_method_2_code 20 = .ok (.return_, 1) := by decide +kernel
theorem pd7 : parseMethodDescriptor "(Ljava/lang/Object;)Ljava/lang/Object;" = some ⟨[(.object "java/lang/Object")], some (.object "java/lang/Object")⟩ := by decide +kernel
theorem pn20 : plainFor (⟨"java/util/ImmutableCollections$List12", "<init>", "(Ljava/lang/Object;Ljava/lang/Object;)V"⟩ : MethodName) = true := plainFor_of_name (by first | (simp [plainName, overriddenIn]; done) | decide +kernel)
theorem ef_rm20 (m : MethodId) (a1 : Addr) (x0 : Addr) (x1 : Addr) : entryFrame m #[(.ref a1), (.ref x0), (.ref x1)] 3 = mkF m 0 #[.val (.ref a1), .val (.ref x0), .val (.ref x1)] [] := by first | (simp [entryFrame, mkF, argsToLocals, Value.category]; done) | rfl
def Q20 (Z : State) (a1 : Addr) (x0 : Addr) (x1 : Addr) (h0 : Heap) (n0 : Nat) (v : Option Value) (h : Heap) (L : List Loc) : Prop := v = none ∧ Fr n0 L ∧ (Keep h0 h [a1]) ∧ (Exa Z h a1 "java/util/ImmutableCollections$List12") ∧ (Fld Z h a1 "java/util/ImmutableCollections$List12" "e0" "Ljava/lang/Object;" (.ref x0)) ∧ (Fld Z h a1 "java/util/ImmutableCollections$List12" "e1" "Ljava/lang/Object;" (.ref x1))
set_option maxRecDepth 65536 in
set_option maxHeartbeats 40000000 in
theorem rm20 (l : Launch) (Z : State) (a0 : Array Value) (hw : ∀ d ∈ tables_1, d.before a0 Z = true) (ws : List Jvm.Cond) (a1 : Addr) (x0 : Addr) (x1 : Addr) (h0 : Heap) (n0 : Nat) (Z0 : n0 ≤ h0.size) (F0 : Exa Z h0 a1 "java/util/ImmutableCollections$List12") (F1 : Fld Z h0 a1 "java/util/ImmutableCollections$List12" "e0" "Ljava/lang/Object;" .null) (F2 : Fld Z h0 a1 "java/util/ImmutableCollections$List12" "e1" "Ljava/lang/Object;" .null) (g1 : n0 ≤ a1) :
  MetFree l (⟨"java/util/ImmutableCollections$List12", "<init>", "(Ljava/lang/Object;Ljava/lang/Object;)V"⟩ : MethodName) (head1 (Jvm.Cond.code (⟨"java/util/ImmutableCollections$List12", "<init>", "(Ljava/lang/Object;Ljava/lang/Object;)V"⟩ : MethodName) jdk_44_method_2_code 3 none :: ws) ({ frames := 4, cells := 0, slots := 0, locals := 48 } : Room)) (fun a U => a = #[(.ref a1), (.ref x0), (.ref x1)] ∧ Z.Warmed39 U.vm ∧ U.heap = h0) (fun _ _ _ _ _ => True) (fun _ U o U' => ∃ v L, o = .returned v ∧ Q20 Z a1 x0 x1 h0 n0 v U'.heap L ∧ FrameEnd U o U' L ({ frames := 4, cells := 0, slots := 0, locals := 48 } : Room).cells ({ frames := 4, cells := 0, slots := 0, locals := 48 } : Room).slots) := by
 refine MetFree.of_bodySF pn20 hisR ?_
 intro p e s m args below meth c s₁ Bd hml0 hP hK
 obtain ⟨rfl, hZ, hh⟩ := hP
 have hx := Bd.exec
 have hby := Bd.bytes
 have hml : c.maxLocals = 3 := hml0
 have hown : s.vm.findClass "java/util/ImmutableCollections$List12" = some m.cls := findClass_of_methodNamed Bd.named
 have hnm := (name_of_methodNamed Bd.named Bd.method).1
 have X0 : Stand p l e ({ frames := 4, cells := 0, slots := 0, locals := 48 } : Room) s m #[(.ref a1), (.ref x0), (.ref x1)] below meth c s₁ [] 0 0 := Stand.of_body Bd
 have e0 : s₁.heap = h0 := by rw [← hh, Bd.state]; rfl
 have N0 := Fr.nil n0
 have p0 : Go p.tables e below (s₁.setTop (entryFrame m #[(.ref a1), (.ref x0), (.ref x1)] 3)) (s₁.setTop (mkF m 0 #[.val (.ref a1), .val (.ref x0), .val (.ref x1)] [])) := fun t_ k_ => castTop (ef_rm20 m a1 x0 x1) k_
 have p101 : Go p.tables e below _ (s₁.setTop (mkF m 1 #[.val (.ref a1), .val (.ref x0), .val (.ref x1)] [(.ref a1)])) := fun t_ k_ => p0 t_ (by
  refine XS.aloadN X0.here hx rfl (hb hby d20_0) rfl rfl ?_
  exact k_)
 obtain ⟨_, _, ⟨T102, L102, k102, n102⟩, -, X102, ⟨Lc102, hQ102, l102, y102, z102⟩, st102⟩ := X0.specialBack hx (y := (⟨"java/util/ImmutableCollections$AbstractImmutableList", "<init>", "()V"⟩ : MethodName)) rfl hown (mvT hZ (own_w hw 162 rfl)) (mvT hZ (own_w hw 163 rfl)) (mvT hZ (own_w hw 167 rfl)) (by decide) (backOf (W := 0) (rm21 l Z a0 hw [] a1 h0 n0 (Nat.le_trans Z0 (Keep.refl h0 [a1]).1) ) hZ (own_w hw 167 rfl) (own_w hw 166 rfl) (by decide) (by decide)) (g := (mkF m 1 #[.val (.ref a1), .val (.ref x0), .val (.ref x1)] [(.ref a1)])) rfl (by rw [hml]; rfl) (Steps.refl _) (a := a1) (argsL := []) (rest := []) (lenOf pd0 rfl) rfl (by show 2 * 0 + _ ≤ _; exact Nat.le_of_eq rfl) (hb hby d20_1) (fun _ _ => ⟨rfl, e0, (by decide : 0 + 0 ≤ _), (by decide : 0 + 0 ≤ _)⟩)
 dsimp only [Pt.U, Pt.locs, Pt.cells, Pt.slots] at X102 l102 y102 z102 st102 hQ102
 subst l102 y102 z102
 obtain ⟨rfl, N102q, q102_hh⟩ := hQ102
 have N102 := Fr.app N0 N102q
 have p103 : Go p.tables e below _ (T102.setTop (mkF m 6 #[.val (.ref a1), .val (.ref x0), .val (.ref x1)] [(.ref x0), (.ref a1)])) := fun t_ k_ => (gcT p101 st102) t_ (by
  refine XS.aloadN X102.here hx rfl (hb hby d20_4) rfl rfl ?_
  refine XS.aloadN X102.here hx rfl (hb hby d20_5) rfl rfl ?_
  exact k_)
 obtain ⟨_, _, ⟨T104, L104, k104, n104⟩, -, X104, ⟨Lc104, hQ104, l104, y104, z104⟩, st104⟩ := Jvm.LawKit.callS X102 hx (y := (⟨"java/util/Objects", "requireNonNull", "(Ljava/lang/Object;)Ljava/lang/Object;"⟩ : MethodName)) hown (mvT hZ (own_w hw 176 rfl)) (mvT hZ (own_w hw 177 rfl)) (mvT hZ (own_w hw 178 rfl)) (mvT hZ (own_w hw 179 rfl)) (by decide) (backOf (W := 1) (rm23 l Z a0 hw [] x0 h0 n0 (Nat.le_trans Z0 (Keep.refl h0 [a1]).1) ) hZ (own_w hw 179 rfl) (own_w hw 178 rfl) (by decide) (by decide)) (g := (mkF m 6 #[.val (.ref a1), .val (.ref x0), .val (.ref x1)] [(.ref x0), (.ref a1)])) rfl (by rw [hml]; rfl) (argsL := [(.ref x0)]) (rest := [(.ref a1)]) (lenOf pd7 rfl) rfl (by show 2 * 0 + _ ≤ _; exact Nat.le_of_eq rfl) (hb hby d20_6) (fun _ _ => ⟨rfl, q102_hh, (by decide : 0 + 0 ≤ _), (by decide : 0 + 0 ≤ _)⟩)
 dsimp only [Pt.U, Pt.locs, Pt.cells, Pt.slots] at X104 l104 y104 z104 st104 hQ104
 subst l104 y104 z104
 obtain ⟨rfl, N104q, q104_hh⟩ := hQ104
 have N104 := Fr.app N102 N104q
 obtain ⟨T105, h105, X105, e105, W105, st105⟩ := putF X104 hx hZ hown (host := "") (Or.inl (own_w hw 180 rfl)) Via.refl q104_hh F1 F0 (Or.inr ⟨(own_w hw 181 rfl), rfl, hnm⟩) (own_w hw 156 rfl) (ty := (.object "java/lang/Object")) (by decide) rfl rfl (g := (mkF m 9 #[.val (.ref a1), .val (.ref x0), .val (.ref x1)] [(.ref x0), (.ref a1)])) rfl rfl (hb hby d20_9)
 have K106 : Keep h0 h105 [a1] := (Keep.refl h0 [a1]).wr W105 (Or.inl (List.mem_of_getElem? (i := 0) rfl))
 have N105 := Fr.snoc X105 N104 g1
 have F105 : Fld Z h105 a1 "java/util/ImmutableCollections$List12" "e0" "Ljava/lang/Object;" (.ref x0) := F1.same W105
 have p107 : Go p.tables e below _ (T105.setTop (mkF m 14 #[.val (.ref a1), .val (.ref x0), .val (.ref x1)] [(.ref x1), (.ref a1)])) := fun t_ k_ => (gc (gc p103 st104) st105) t_ (by
  refine XS.aloadN X105.here hx rfl (hb hby d20_12) rfl rfl ?_
  refine XS.aloadN X105.here hx rfl (hb hby d20_13) rfl rfl ?_
  exact k_)
 obtain ⟨_, _, ⟨T108, L108, k108, n108⟩, -, X108, ⟨Lc108, hQ108, l108, y108, z108⟩, st108⟩ := Jvm.LawKit.callS X105 hx (y := (⟨"java/util/Objects", "requireNonNull", "(Ljava/lang/Object;)Ljava/lang/Object;"⟩ : MethodName)) hown (mvT hZ (own_w hw 176 rfl)) (mvT hZ (own_w hw 177 rfl)) (mvT hZ (own_w hw 178 rfl)) (mvT hZ (own_w hw 179 rfl)) (by decide) (backOf (W := 1) (rm23 l Z a0 hw [] x1 h105 n0 (Nat.le_trans Z0 K106.1) ) hZ (own_w hw 179 rfl) (own_w hw 178 rfl) (by decide) (by decide)) (g := (mkF m 14 #[.val (.ref a1), .val (.ref x0), .val (.ref x1)] [(.ref x1), (.ref a1)])) rfl (by rw [hml]; rfl) (argsL := [(.ref x1)]) (rest := [(.ref a1)]) (lenOf pd7 rfl) rfl (by show 2 * 0 + _ ≤ _; exact Nat.le_of_eq rfl) (hb hby d20_14) (fun _ _ => ⟨rfl, e105, (by decide : 0 + 0 ≤ _), (by decide : 0 + 0 ≤ _)⟩)
 dsimp only [Pt.U, Pt.locs, Pt.cells, Pt.slots] at X108 l108 y108 z108 st108 hQ108
 subst l108 y108 z108
 obtain ⟨rfl, N108q, q108_hh⟩ := hQ108
 have N108 := Fr.app N105 N108q
 have f109 := (F2.other W105 (Or.inr (slot_ne (Or.inr (own_w hw 183 rfl)) (Or.inr (own_w hw 181 rfl)) (by decide) (t := (.object "java/lang/Object")) (t' := (.object "java/lang/Object")) (by decide) (by decide))))
 have f110 := (F0.wr W105)
 obtain ⟨T111, h111, X111, e111, W111, st111⟩ := putF X108 hx hZ hown (host := "") (Or.inl (own_w hw 182 rfl)) Via.refl q108_hh f109 f110 (Or.inr ⟨(own_w hw 183 rfl), rfl, hnm⟩) (own_w hw 156 rfl) (ty := (.object "java/lang/Object")) (by decide) rfl rfl (g := (mkF m 17 #[.val (.ref a1), .val (.ref x0), .val (.ref x1)] [(.ref x1), (.ref a1)])) rfl rfl (hb hby d20_17)
 have K112 : Keep h0 h111 [a1] := K106.wr W111 (Or.inl (List.mem_of_getElem? (i := 0) rfl))
 have N111 := Fr.snoc X111 N108 g1
 have F111 : Fld Z h111 a1 "java/util/ImmutableCollections$List12" "e1" "Ljava/lang/Object;" (.ref x1) := f109.same W111
 have f113 := (f110.wr W111)
 have f114 := (F105.other W111 (Or.inr (slot_ne (Or.inr (own_w hw 181 rfl)) (Or.inr (own_w hw 183 rfl)) (by decide) (t := (.object "java/lang/Object")) (t' := (.object "java/lang/Object")) (by decide) (by decide))))
 obtain ⟨fs, hr, hrun, hended, hW, hsame⟩ := X111.leave (v := none) (fun _ => rfl)
 refine ⟨_, _, (gc (gc p107 st108) st111) _ (X111.returnOut hx Bd.returns (hb hby d20_20) hr), hrun, hended, _, _, rfl, ?_, ⟨_, rfl⟩, hW, hsame.mono (by decide) (by decide)⟩
 show Q20 Z a1 x0 x1 h0 n0 _ T111.heap _
 rw [e111]
 exact ⟨rfl, N111, K112, f113, f114, F111⟩
theorem d19_0 : decode jdk_40_method_47_code 0 = .ok (.aload_n 0, 1) := by decide +kernel
theorem d19_1 : decode jdk_40_method_47_code 1 = .ok (.arraylength, 1) := by decide +kernel
theorem d19_2 : decode jdk_40_method_47_code 2 = .ok (.tableswitch 57 0 2 #[26, 32, 43], 26) := by decide +kernel
theorem d19_45 : decode jdk_40_method_47_code 45 = .ok (.new 96, 3) := by decide +kernel
theorem d19_48 : decode jdk_40_method_47_code 48 = .ok (.dup, 1) := by decide +kernel
theorem d19_49 : decode jdk_40_method_47_code 49 = .ok (.aload_n 0, 1) := by decide +kernel
theorem d19_50 : decode jdk_40_method_47_code 50 = .ok (.iconst 0, 1) := by decide +kernel
theorem d19_51 : decode jdk_40_method_47_code 51 = .ok (.aaload, 1) := by decide +kernel
theorem d19_52 : decode jdk_40_method_47_code 52 = .ok (.aload_n 0, 1) := by decide +kernel
theorem d19_53 : decode jdk_40_method_47_code 53 = .ok (.iconst 1, 1) := by decide +kernel
theorem d19_54 : decode jdk_40_method_47_code 54 = .ok (.aaload, 1) := by decide +kernel
theorem d19_55 : decode jdk_40_method_47_code 55 = .ok (.invokespecial 100, 3) := by decide +kernel
theorem d19_58 : decode jdk_40_method_47_code 58 = .ok (.areturn, 1) := by decide +kernel
theorem pd8 : parseMethodDescriptor "(Ljava/lang/Object;Ljava/lang/Object;)V" = some ⟨[(.object "java/lang/Object"), (.object "java/lang/Object")], none⟩ := by decide +kernel
theorem pn19 : plainFor (⟨"java/util/List", "of", "([Ljava/lang/Object;)Ljava/util/List;"⟩ : MethodName) = true := plainFor_of_name (by first | (simp [plainName, overriddenIn]; done) | decide +kernel)
theorem ef_rm19 (m : MethodId) (a1 : Addr) (k1 : ClassId) (x0 : Addr) (x1 : Addr) : entryFrame m #[(.ref a1)] 2 = mkF m 0 #[.val (.ref a1), .unset] [] := by first | (simp [entryFrame, mkF, argsToLocals, Value.category]; done) | rfl
def Q19 (Z : State) (a1 : Addr) (k1 : ClassId) (x0 : Addr) (x1 : Addr) (h0 : Heap) (n0 : Nat) (v : Option Value) (h : Heap) (L : List Loc) : Prop := ∃ (b : Addr), v = some (.ref b) ∧ Fr n0 L ∧ (Keep h0 h []) ∧ (Exa Z h b "java/util/ImmutableCollections$List12") ∧ (Fld Z h b "java/util/ImmutableCollections$List12" "e0" "Ljava/lang/Object;" (.ref x0)) ∧ (Fld Z h b "java/util/ImmutableCollections$List12" "e1" "Ljava/lang/Object;" (.ref x1)) ∧ (n0 ≤ b) ∧ (h0.size ≤ b)
set_option maxRecDepth 65536 in
set_option maxHeartbeats 40000000 in
theorem rm19 (l : Launch) (Z : State) (a0 : Array Value) (hw : ∀ d ∈ tables_1, d.before a0 Z = true) (ws : List Jvm.Cond) (a1 : Addr) (k1 : ClassId) (x0 : Addr) (x1 : Addr) (h0 : Heap) (n0 : Nat) (Z0 : n0 ≤ h0.size) (V1 : Arv Z h0 a1 k1 (.object "java/lang/Object") (2 : Int32) [(.ref x0), (.ref x1)] .null) :
  MetFree l (⟨"java/util/List", "of", "([Ljava/lang/Object;)Ljava/util/List;"⟩ : MethodName) (head1 (Jvm.Cond.code (⟨"java/util/List", "of", "([Ljava/lang/Object;)Ljava/util/List;"⟩ : MethodName) jdk_40_method_47_code 2 (some (.object "java/util/List")) :: ws) ({ frames := 5, cells := 1, slots := 2, locals := 63 } : Room)) (fun a U => a = #[(.ref a1)] ∧ Z.Warmed39 U.vm ∧ U.heap = h0) (fun _ _ _ _ _ => True) (fun _ U o U' => ∃ v L, o = .returned v ∧ Q19 Z a1 k1 x0 x1 h0 n0 v U'.heap L ∧ FrameEnd U o U' L ({ frames := 5, cells := 1, slots := 2, locals := 63 } : Room).cells ({ frames := 5, cells := 1, slots := 2, locals := 63 } : Room).slots) := by
 refine MetFree.of_bodySF pn19 hisR ?_
 intro p e s m args below meth c s₁ Bd hml0 hP hK
 obtain ⟨rfl, hZ, hh⟩ := hP
 have hx := Bd.exec
 have hby := Bd.bytes
 have hml : c.maxLocals = 2 := hml0
 have hown : s.vm.findClass "java/util/List" = some m.cls := findClass_of_methodNamed Bd.named
 have hnm := (name_of_methodNamed Bd.named Bd.method).1
 have X0 : Stand p l e ({ frames := 5, cells := 1, slots := 2, locals := 63 } : Room) s m #[(.ref a1)] below meth c s₁ [] 0 0 := Stand.of_body Bd
 have e0 : s₁.heap = h0 := by rw [← hh, Bd.state]; rfl
 have N0 := Fr.nil n0
 have p0 : Go p.tables e below (s₁.setTop (entryFrame m #[(.ref a1)] 2)) (s₁.setTop (mkF m 0 #[.val (.ref a1), .unset] [])) := fun t_ k_ => castTop (ef_rm19 m a1 k1 x0 x1) k_
 have p101 : Go p.tables e below _ (s₁.setTop (mkF m 1 #[.val (.ref a1), .unset] [(.ref a1)])) := fun t_ k_ => p0 t_ (by
  refine XS.aloadN X0.here hx rfl (hb hby d19_0) rfl rfl ?_
  exact k_)
 obtain ⟨cl102, Ar102, -, S102, Ng102, -, -⟩ := id V1
 have p103 : Go p.tables e below _ (s₁.setTop (mkF m 45 #[.val (.ref a1), .unset] [])) := fun t_ k_ => p101 t_ (by
  refine X0.arraylength hx (by rw [e0]; exact Ar102.1) (State.isArrayOf_alike hZ.alike Ar102.2.1) (g := (mkF m 1 #[.val (.ref a1), .unset] [(.ref a1)])) rfl rfl (hb hby d19_1) _ ?_
  rw [len_of S102 Ng102]
  show Steps p.tables e below (s₁.setTop (mkF m 2 #[.val (.ref a1), .unset] [(.int (2 : Int32))])) _
  refine XS.tswIn X0.here hx rfl (pc0 := 2) (pc' := 45) rfl (hb hby d19_2) rfl (by decide) rfl (by decide) (by decide) ?_
  exact k_)
 obtain ⟨T104, h104, X104, e104, E104, A104, D104, -, st104⟩ := newO X0 hx hZ hown (own_w hw 155 rfl) (own_w hw 156 rfl) (own_w hw 157 rfl) e0 (g := (mkF m 45 #[.val (.ref a1), .unset] [])) rfl (hb hby d19_45) (by decide) (by decide)
 obtain ⟨b104, g104⟩ : ∃ z, z = h0.size := ⟨_, rfl⟩
 rw [← g104] at A104 D104 st104
 have ne_a1_b104 : a1 ≠ b104 := Nat.ne_of_lt (Nat.lt_of_lt_of_le V1.lt (Nat.le_of_eq g104.symm))
 have ge_b104 : n0 ≤ b104 := Nat.le_trans (Nat.le_trans Z0 (Keep.refl h0 []).1) (Nat.le_of_eq g104.symm)
 have sz_b104 : h0.size ≤ b104 := Nat.le_trans (Keep.refl h0 []).1 (Nat.le_of_eq g104.symm)
 have K105 : Keep h0 h104 [] := (Keep.refl h0 []).ext E104
 have F104_e0 : Fld Z h104 b104 "java/util/ImmutableCollections$List12" "e0" "Ljava/lang/Object;" .null := D104 (Or.inr (own_w hw 181 rfl)) (ty := (.object "java/lang/Object")) (by decide)
 have F104_e1 : Fld Z h104 b104 "java/util/ImmutableCollections$List12" "e1" "Ljava/lang/Object;" .null := D104 (Or.inr (own_w hw 183 rfl)) (ty := (.object "java/lang/Object")) (by decide)
 have p106 : Go p.tables e below _ (T104.setTop (mkF m 51 #[.val (.ref a1), .unset] [(.int (0 : Int32)), (.ref a1), (.ref b104), (.ref b104)])) := fun t_ k_ => (gc p103 st104) t_ (by
  refine XS.dup X104.here hx rfl (hb hby d19_48) rfl rfl ?_
  refine XS.aloadN X104.here hx rfl (hb hby d19_49) rfl rfl ?_
  refine XS.iconst X104.here hx rfl (hb hby d19_50) ?_
  exact k_)
 have f108 := (V1.ext E104)
 obtain ⟨cl107, Ar107, q107, S107, Ng107, H107, G107⟩ := id f108
 have hin107 := inb_of S107 (j := (0 : Int32)) ⟨by decide, by decide⟩
 have hat107 := H107.at (v := (.ref x0)) hin107 rfl
 have p109 : Go p.tables e below _ (T104.setTop (mkF m 54 #[.val (.ref a1), .unset] [(.int (1 : Int32)), (.ref a1), (.ref x0), (.ref b104), (.ref b104)])) := fun t_ k_ => p106 t_ (by
  refine X104.aaload hx (j := (0 : Int32)) (v := (.ref x0)) (by rw [e104]; exact Ar107.1) (State.isArrayOf_alike hZ.alike Ar107.2.1) rfl Ar107.2.2 hin107 hat107 (g := (mkF m 51 #[.val (.ref a1), .unset] [(.int (0 : Int32)), (.ref a1), (.ref b104), (.ref b104)])) rfl rfl (hb hby d19_51) _ ?_
  refine XS.aloadN X104.here hx rfl (hb hby d19_52) rfl rfl ?_
  refine XS.iconst X104.here hx rfl (hb hby d19_53) ?_
  exact k_)
 obtain ⟨cl110, Ar110, q110, S110, Ng110, H110, G110⟩ := id f108
 have hin110 := inb_of S110 (j := (1 : Int32)) ⟨by decide, by decide⟩
 have hat110 := H110.at (v := (.ref x1)) hin110 rfl
 have p111 : Go p.tables e below _ (T104.setTop (mkF m 55 #[.val (.ref a1), .unset] [(.ref x1), (.ref x0), (.ref b104), (.ref b104)])) := fun t_ k_ => p109 t_ (by
  refine X104.aaload hx (j := (1 : Int32)) (v := (.ref x1)) (by rw [e104]; exact Ar110.1) (State.isArrayOf_alike hZ.alike Ar110.2.1) rfl Ar110.2.2 hin110 hat110 (g := (mkF m 54 #[.val (.ref a1), .unset] [(.int (1 : Int32)), (.ref a1), (.ref x0), (.ref b104), (.ref b104)])) rfl rfl (hb hby d19_54) _ ?_
  exact k_)
 obtain ⟨_, _, ⟨T112, L112, k112, n112⟩, -, X112, ⟨Lc112, hQ112, l112, y112, z112⟩, st112⟩ := X104.specialBack hx (y := (⟨"java/util/ImmutableCollections$List12", "<init>", "(Ljava/lang/Object;Ljava/lang/Object;)V"⟩ : MethodName)) rfl hown (mvT hZ (own_w hw 158 rfl)) (mvT hZ (own_w hw 159 rfl)) (mvT hZ (own_w hw 161 rfl)) (by decide) (backOf (W := 1) (rm20 l Z a0 hw [] b104 x0 x1 h104 n0 (Nat.le_trans Z0 K105.1) A104 F104_e0 F104_e1 ge_b104) hZ (own_w hw 161 rfl) (own_w hw 157 rfl) (by decide) (by decide)) (g := (mkF m 55 #[.val (.ref a1), .unset] [(.ref x1), (.ref x0), (.ref b104), (.ref b104)])) rfl (by rw [hml]; rfl) (Steps.refl _) (a := b104) (argsL := [(.ref x0), (.ref x1)]) (rest := [(.ref b104)]) (lenOf pd8 rfl) rfl (by show 2 * 0 + _ ≤ _; exact Nat.le_of_eq rfl) (hb hby d19_55) (fun _ _ => ⟨rfl, e104, (by decide : 1 + 0 ≤ _), (by decide : 2 + 0 ≤ _)⟩)
 dsimp only [Pt.U, Pt.locs, Pt.cells, Pt.slots] at X112 l112 y112 z112 st112 hQ112
 subst l112 y112 z112
 obtain ⟨rfl, N112q, q112_K, q112_F0, q112_F1, q112_F2⟩ := hQ112
 have N112 := Fr.app N0 N112q
 have K113 : Keep h0 T112.heap [] := K105.trans q112_K (allS (Or.inr sz_b104) all0)
 obtain ⟨fs, hr, hrun, hended, hW, hsame⟩ := X112.leave (v := some (.ref b104)) (fun h => by rw [Bd.returns] at h; cases h)
 refine ⟨_, _, (gcT p111 st112) _ (retOut X112 hx (w := (.ref b104)) (i := .areturn) Bd.returns rfl (Or.inr (Or.inr (Or.inr (Or.inr ⟨rfl, rfl, rfl⟩)))) (hb hby d19_58) hr), hrun, hended, _, _, rfl, ?_, ⟨_, rfl⟩, hW, hsame.mono (by decide) (by decide)⟩
 show Q19 Z a1 k1 x0 x1 h0 n0 _ T112.heap _
 exact ⟨b104, rfl, N112, K113, q112_F0, q112_F1, q112_F2, ge_b104, sz_b104⟩
theorem d24_0 : decode jdk_40_method_36_code 0 = .ok (.getstatic 90, 3) := by decide +kernel
theorem d24_3 : decode jdk_40_method_36_code 3 = .ok (.areturn, 1) := by decide +kernel
theorem pn24 : plainFor (⟨"java/util/List", "of", "()Ljava/util/List;"⟩ : MethodName) = true := plainFor_of_name (by first | (simp [plainName, overriddenIn]; done) | decide +kernel)
theorem ef_rm24 (m : MethodId) (de : Addr) (kde : ClassId) (el : Addr) (ea : Addr) (kea : ClassId) (em : Addr) (mr : Addr) : entryFrame m #[] 0 = mkF m 0 #[] [] := by first | (simp [entryFrame, mkF, argsToLocals, Value.category]; done) | rfl
def Q24 (Z : State) (de : Addr) (kde : ClassId) (el : Addr) (ea : Addr) (kea : ClassId) (em : Addr) (mr : Addr) (h0 : Heap) (n0 : Nat) (v : Option Value) (h : Heap) (L : List Loc) : Prop := v = some (.ref el) ∧ Fr n0 L ∧ (h = h0)
set_option maxRecDepth 65536 in
set_option maxHeartbeats 40000000 in
theorem rm24 (l : Launch) (Z : State) (a0 : Array Value) (hw : ∀ d ∈ tables_1, d.before a0 Z = true) (ws : List Jvm.Cond) (de : Addr) (kde : ClassId) (el : Addr) (ea : Addr) (kea : ClassId) (em : Addr) (mr : Addr) (h0 : Heap) (n0 : Nat) (Z0 : n0 ≤ h0.size) (O1 : Old Z n0 h0) (G : own_H Z de kde el ea kea em mr) :
  MetFree l (⟨"java/util/List", "of", "()Ljava/util/List;"⟩ : MethodName) (head1 (Jvm.Cond.code (⟨"java/util/List", "of", "()Ljava/util/List;"⟩ : MethodName) jdk_40_method_36_code 0 (some (.object "java/util/List")) :: ws) ({ frames := 0, cells := 0, slots := 0, locals := 0 } : Room)) (fun a U => a = #[] ∧ Z.Warmed39 U.vm ∧ U.heap = h0) (fun _ _ _ _ _ => True) (fun _ U o U' => ∃ v L, o = .returned v ∧ Q24 Z de kde el ea kea em mr h0 n0 v U'.heap L ∧ FrameEnd U o U' L ({ frames := 0, cells := 0, slots := 0, locals := 0 } : Room).cells ({ frames := 0, cells := 0, slots := 0, locals := 0 } : Room).slots) := by
 refine MetFree.of_bodySF pn24 hisR ?_
 intro p e s m args below meth c s₁ Bd hml0 hP hK
 obtain ⟨rfl, hZ, hh⟩ := hP
 have hx := Bd.exec
 have hby := Bd.bytes
 have hml : c.maxLocals = 0 := hml0
 have hown : s.vm.findClass "java/util/List" = some m.cls := findClass_of_methodNamed Bd.named
 have hnm := (name_of_methodNamed Bd.named Bd.method).1
 have X0 : Stand p l e ({ frames := 0, cells := 0, slots := 0, locals := 0 } : Room) s m #[] below meth c s₁ [] 0 0 := Stand.of_body Bd
 have e0 : s₁.heap = h0 := by rw [← hh, Bd.state]; rfl
 have N0 := Fr.nil n0
 have p0 : Go p.tables e below (s₁.setTop (entryFrame m #[] 0)) (s₁.setTop (mkF m 0 #[] [])) := fun t_ k_ => castTop (ef_rm24 m de kde el ea kea em mr) k_
 obtain ⟨T101, X101, e101, st101⟩ := getS2 X0 hx hZ hown (host := "") (Or.inl (own_w hw 189 rfl)) Via.refl e0 (G.2.2.2.1.ext O1.2) (g := (mkF m 0 #[] [])) rfl (hb hby d24_0)
 obtain ⟨fs, hr, hrun, hended, hW, hsame⟩ := X101.leave (v := some (.ref el)) (fun h => by rw [Bd.returns] at h; cases h)
 refine ⟨_, _, (gc p0 st101) _ (retOut X101 hx (w := (.ref el)) (i := .areturn) Bd.returns rfl (Or.inr (Or.inr (Or.inr (Or.inr ⟨rfl, rfl, rfl⟩)))) (hb hby d24_3) hr), hrun, hended, _, _, rfl, ?_, ⟨_, rfl⟩, hW, hsame.mono (by decide) (by decide)⟩
 show Q24 Z de kde el ea kea em mr h0 n0 _ T101.heap _
 rw [e101]
 exact ⟨rfl, N0, rfl⟩
theorem d13_0 : decode jdk_56_method_3_code 0 = .ok (.aload_n 0, 1) := by decide +kernel
theorem d13_1 : decode jdk_56_method_3_code 1 = .ok (.instanceof 10, 3) := by decide +kernel
theorem d13_4 : decode jdk_56_method_3_code 4 = .ok (.ifCond .ne 22, 3) := by decide +kernel
theorem d13_7 : decode jdk_56_method_3_code 7 = .ok (.aload_n 0, 1) := by decide +kernel
theorem d13_8 : decode jdk_56_method_3_code 8 = .ok (.instanceof 12, 3) := by decide +kernel
theorem d13_11 : decode jdk_56_method_3_code 11 = .ok (.ifCond .eq 20, 3) := by decide +kernel
theorem d13_31 : decode jdk_56_method_3_code 31 = .ok (.aload_n 0, 1) := by decide +kernel
theorem d13_32 : decode jdk_56_method_3_code 32 = .ok (.invokeinterface 20 1, 5) := by decide +kernel
theorem d13_37 : decode jdk_56_method_3_code 37 = .ok (.ifCond .eq 7, 3) := by decide +kernel
theorem d13_44 : decode jdk_56_method_3_code 44 = .ok (.aload_n 0, 1) := by decide +kernel
theorem d13_45 : decode jdk_56_method_3_code 45 = .ok (.invokeinterface 30 1, 5) := by decide +kernel
theorem d13_50 : decode jdk_56_method_3_code 50 = .ok (.invokestatic 34, 3) := by decide +kernel
theorem d13_53 : decode jdk_56_method_3_code 53 = .ok (.areturn, 1) := by decide +kernel
theorem pd9 : parseMethodDescriptor "()Z" = some ⟨[], some .boolean⟩ := by decide +kernel
theorem pd10 : parseMethodDescriptor "([Ljava/lang/Object;)Ljava/util/List;" = some ⟨[(.array (.object "java/lang/Object"))], some (.object "java/util/List")⟩ := by decide +kernel
theorem pn13 : plainFor (⟨"java/util/ImmutableCollections", "listCopy", "(Ljava/util/Collection;)Ljava/util/List;"⟩ : MethodName) = true := plainFor_of_name (by first | (simp [plainName, overriddenIn]; done) | decide +kernel)
theorem ef_rm13_2 (m : MethodId) (a1 : Addr) (mc : Int32) (ed : Addr) (kd : ClassId) (x0 : Addr) (x1 : Addr) (de : Addr) (kde : ClassId) (el : Addr) (ea : Addr) (kea : ClassId) (em : Addr) (mr : Addr) : entryFrame m #[(.ref a1)] 2 = mkF m 0 #[.val (.ref a1), .unset] [] := by first | (simp [entryFrame, mkF, argsToLocals, Value.category]; done) | rfl
def Q13_2 (Z : State) (a1 : Addr) (mc : Int32) (ed : Addr) (kd : ClassId) (x0 : Addr) (x1 : Addr) (de : Addr) (kde : ClassId) (el : Addr) (ea : Addr) (kea : ClassId) (em : Addr) (mr : Addr) (h0 : Heap) (n0 : Nat) (v : Option Value) (h : Heap) (L : List Loc) : Prop := ∃ (b : Addr), v = some (.ref b) ∧ Fr n0 L ∧ (Keep h0 h []) ∧ (Exa Z h b "java/util/ImmutableCollections$List12") ∧ (Fld Z h b "java/util/ImmutableCollections$List12" "e0" "Ljava/lang/Object;" (.ref x0)) ∧ (Fld Z h b "java/util/ImmutableCollections$List12" "e1" "Ljava/lang/Object;" (.ref x1)) ∧ (n0 ≤ b) ∧ (h0.size ≤ b)
set_option maxRecDepth 65536 in
set_option maxHeartbeats 40000000 in
theorem rm13_2 (l : Launch) (Z : State) (a0 : Array Value) (hw : ∀ d ∈ tables_1, d.before a0 Z = true) (ws : List Jvm.Cond) (a1 : Addr) (mc : Int32) (ed : Addr) (kd : ClassId) (x0 : Addr) (x1 : Addr) (de : Addr) (kde : ClassId) (el : Addr) (ea : Addr) (kea : ClassId) (em : Addr) (mr : Addr) (h0 : Heap) (n0 : Nat) (Z0 : n0 ≤ h0.size) (O1 : Old Z n0 h0) (G : own_H Z de kde el ea kea em mr) (A0 : Exa Z h0 a1 "java/util/ArrayList") (A1 : Fld Z h0 a1 "java/util/AbstractList" "modCount" "I" (.int mc)) (A2 : Fld Z h0 a1 "java/util/ArrayList" "elementData" "[Ljava/lang/Object;" (.ref ed)) (A3 : Fld Z h0 a1 "java/util/ArrayList" "size" "I" (.int (2 : Int32))) (A4 : Arv Z h0 ed kd (.object "java/lang/Object") (10 : Int32) [(.ref x0), (.ref x1), .null, .null, .null, .null, .null, .null, .null, .null] .null) (A5 : Exa Z h0 ed "[Ljava/lang/Object;") (A6 : Exa Z h0 x0 "com/example/arcward/arcward/model/Variable") (A7 : Exa Z h0 x1 "com/example/arcward/arcward/model/Variable") :
  MetFree l (⟨"java/util/ImmutableCollections", "listCopy", "(Ljava/util/Collection;)Ljava/util/List;"⟩ : MethodName) (head1 (Jvm.Cond.code (⟨"java/util/ImmutableCollections", "listCopy", "(Ljava/util/Collection;)Ljava/util/List;"⟩ : MethodName) jdk_56_method_3_code 2 (some (.object "java/util/List")) :: ws) ({ frames := 6, cells := 2, slots := 4, locals := 76 } : Room)) (fun a U => a = #[(.ref a1)] ∧ Z.Warmed39 U.vm ∧ U.heap = h0) (fun _ _ _ _ _ => True) (fun _ U o U' => ∃ v L, o = .returned v ∧ Q13_2 Z a1 mc ed kd x0 x1 de kde el ea kea em mr h0 n0 v U'.heap L ∧ FrameEnd U o U' L ({ frames := 6, cells := 2, slots := 4, locals := 76 } : Room).cells ({ frames := 6, cells := 2, slots := 4, locals := 76 } : Room).slots) := by
 refine MetFree.of_bodySF pn13 hisR ?_
 intro p e s m args below meth c s₁ Bd hml0 hP hK
 obtain ⟨rfl, hZ, hh⟩ := hP
 have hx := Bd.exec
 have hby := Bd.bytes
 have hml : c.maxLocals = 2 := hml0
 have hown : s.vm.findClass "java/util/ImmutableCollections" = some m.cls := findClass_of_methodNamed Bd.named
 have hnm := (name_of_methodNamed Bd.named Bd.method).1
 have X0 : Stand p l e ({ frames := 6, cells := 2, slots := 4, locals := 76 } : Room) s m #[(.ref a1)] below meth c s₁ [] 0 0 := Stand.of_body Bd
 have e0 : s₁.heap = h0 := by rw [← hh, Bd.state]; rfl
 have N0 := Fr.nil n0
 have p0 : Go p.tables e below (s₁.setTop (entryFrame m #[(.ref a1)] 2)) (s₁.setTop (mkF m 0 #[.val (.ref a1), .unset] [])) := fun t_ k_ => castTop (ef_rm13_2 m a1 mc ed kd x0 x1 de kde el ea kea em mr) k_
 have p101 : Go p.tables e below _ (s₁.setTop (mkF m 1 #[.val (.ref a1), .unset] [(.ref a1)])) := fun t_ k_ => p0 t_ (by
  refine XS.aloadN X0.here hx rfl (hb hby d13_0) rfl rfl ?_
  exact k_)
 obtain ⟨T102, X102, e102, st102⟩ := instNo X0 hx hZ hown (own_w hw 107 rfl) e0 A0 (nsNo (own_w hw 108 rfl) (NS.step (own_w hw 108 rfl) (NS.step (own_w hw 109 rfl) (NS.step (own_w hw 110 rfl) (nsRoot (own_w hw 111 rfl) (own_w hw 195 rfl) (by decide)) (by decide)) (by decide)) (by decide)) (own_w hw 195 rfl) rfl (by decide)) (g := (mkF m 1 #[.val (.ref a1), .unset] [(.ref a1)])) rfl rfl (hb hby d13_1)
 have p103 : Go p.tables e below _ (T102.setTop (mkF m 8 #[.val (.ref a1), .unset] [(.ref a1)])) := fun t_ k_ => (gc p101 st102) t_ (by
  refine XS.ifNo X102.here hx rfl (hb hby d13_4) rfl ((if0 _ _).trans (teq (by decide : ((0 : Int32) = (0 : Int32)))).2) ?_
  refine XS.aloadN X102.here hx rfl (hb hby d13_7) rfl rfl ?_
  exact k_)
 obtain ⟨T104, X104, e104, st104⟩ := instNo X102 hx hZ hown (own_w hw 112 rfl) e102 A0 (nsNo (own_w hw 108 rfl) (NS.step (own_w hw 108 rfl) (NS.step (own_w hw 109 rfl) (NS.step (own_w hw 110 rfl) (nsRoot (own_w hw 111 rfl) (own_w hw 232 rfl) (by decide)) (by decide)) (by decide)) (by decide)) (own_w hw 232 rfl) rfl (by decide)) (g := (mkF m 8 #[.val (.ref a1), .unset] [(.ref a1)])) rfl rfl (hb hby d13_8)
 have p105 : Go p.tables e below _ (T104.setTop (mkF m 32 #[.val (.ref a1), .unset] [(.ref a1)])) := fun t_ k_ => (gc p103 st104) t_ (by
  refine XS.ifYes X104.here hx rfl (pc0 := 11) (pc' := 31) rfl (hb hby d13_11) rfl ((if0 _ _).trans (teq (by decide : ((0 : Int32) = (0 : Int32)))).1) (by decide) (by decide) ?_
  refine XS.aloadN X104.here hx rfl (hb hby d13_31) rfl rfl ?_
  exact k_)
 obtain ⟨cq106, kq106, q106a, q106b, q106c⟩ := isOf hZ e104 A0
 obtain ⟨_, _, ⟨T106, L106, k106, n106⟩, -, X106, ⟨Lc106, hQ106, l106, y106, z106⟩, st106⟩ := X104.interfaceBack hx (xi := (⟨"java/util/Collection", "isEmpty", "()Z"⟩ : MethodName)) (y := (⟨"java/util/ArrayList", "isEmpty", "()Z"⟩ : MethodName)) hown (mvT hZ (own_w hw 113 rfl)) (mvT hZ (own_w hw 114 rfl)) (mvT hZ (own_w hw 115 rfl)) (mvT hZ (own_w hw 116 rfl)) (mvT hZ (own_w hw 117 rfl)) (mvT hZ (own_w hw 118 rfl)) (mvT hZ (own_w hw 119 rfl)) (mvT hZ (own_w hw 120 rfl)) (by decide) (backOf (W := 0) (rm14_2 l Z a0 hw [] a1 h0 n0 (Nat.le_trans Z0 (Keep.refl h0 []).1) A3) hZ (own_w hw 121 rfl) (own_w hw 2 rfl) (by decide) (by decide)) q106a q106b q106c (g := (mkF m 32 #[.val (.ref a1), .unset] [(.ref a1)])) rfl (by rw [hml]; rfl) (Steps.refl _) (argsL := []) (rest := []) (lenOf pd9 rfl) rfl (by show 2 * 0 + _ ≤ _; exact Nat.le_of_eq rfl) (hb hby d13_32) (fun _ _ => ⟨rfl, e104, (by decide : 0 + 0 ≤ _), (by decide : 0 + 0 ≤ _)⟩)
 dsimp only [Pt.U, Pt.locs, Pt.cells, Pt.slots] at X106 l106 y106 z106 st106 hQ106
 subst l106 y106 z106
 obtain ⟨rfl, N106q, q106_hh⟩ := hQ106
 have N106 := Fr.app N0 N106q
 have p107 : Go p.tables e below _ (T106.setTop (mkF m 45 #[.val (.ref a1), .unset] [(.ref a1)])) := fun t_ k_ => (gcT p105 st106) t_ (by
  refine XS.ifYes X106.here hx rfl (pc0 := 37) (pc' := 44) rfl (hb hby d13_37) rfl ((if0 _ _).trans (teq (by decide : ((0 : Int32) = (0 : Int32)))).1) (by decide) (by decide) ?_
  refine XS.aloadN X106.here hx rfl (hb hby d13_44) rfl rfl ?_
  exact k_)
 obtain ⟨cq108, kq108, q108a, q108b, q108c⟩ := isOf hZ q106_hh A0
 obtain ⟨_, _, ⟨T108, L108, k108, n108⟩, -, X108, ⟨Lc108, hQ108, l108, y108, z108⟩, st108⟩ := X106.interfaceBack hx (xi := (⟨"java/util/Collection", "toArray", "()[Ljava/lang/Object;"⟩ : MethodName)) (y := (⟨"java/util/ArrayList", "toArray", "()[Ljava/lang/Object;"⟩ : MethodName)) hown (mvT hZ (own_w hw 122 rfl)) (mvT hZ (own_w hw 123 rfl)) (mvT hZ (own_w hw 124 rfl)) (mvT hZ (own_w hw 125 rfl)) (mvT hZ (own_w hw 126 rfl)) (mvT hZ (own_w hw 127 rfl)) (mvT hZ (own_w hw 128 rfl)) (mvT hZ (own_w hw 120 rfl)) (by decide) (backOf (W := 0) (rm15 l Z a0 hw [] a1 mc ed kd x0 x1 de kde el ea kea em mr h0 n0 (Nat.le_trans Z0 (Keep.refl h0 []).1) O1 G A0 A1 A2 A3 A4 A5 A6 A7) hZ (own_w hw 129 rfl) (own_w hw 2 rfl) (by decide) (by decide)) q108a q108b q108c (g := (mkF m 45 #[.val (.ref a1), .unset] [(.ref a1)])) rfl (by rw [hml]; rfl) (Steps.refl _) (argsL := []) (rest := []) (lenOf pd3 rfl) rfl (by show 2 * 0 + _ ≤ _; exact Nat.le_of_eq rfl) (hb hby d13_45) (fun _ _ => ⟨rfl, q106_hh, (by decide : 0 + 1 ≤ _), (by decide : 0 + 2 ≤ _)⟩)
 dsimp only [Pt.U, Pt.locs, Pt.cells, Pt.slots] at X108 l108 y108 z108 st108 hQ108
 subst l108 y108 z108
 obtain ⟨x109, x110, rfl, N108q, q108_K, q108_V, q108_g, q108_z⟩ := hQ108
 have N108 := Fr.app N106 N108q
 have K111 : Keep h0 T108.heap [] := (Keep.refl h0 []).trans q108_K all0
 have ne_a1_x109 : a1 ≠ x109 := Nat.ne_of_lt (Nat.lt_of_lt_of_le A0.lt q108_z)
 have ne_ed_x109 : ed ≠ x109 := Nat.ne_of_lt (Nat.lt_of_lt_of_le A4.lt q108_z)
 have ne_x0_x109 : x0 ≠ x109 := Nat.ne_of_lt (Nat.lt_of_lt_of_le A6.lt q108_z)
 have ne_x1_x109 : x1 ≠ x109 := Nat.ne_of_lt (Nat.lt_of_lt_of_le A7.lt q108_z)
 have f112 := (A0.keep q108_K)
 have f113 := (A4.keep q108_K nin0)
 have f114 := (A5.keep q108_K)
 have f115 := (A6.keep q108_K)
 have f116 := (A7.keep q108_K)
 obtain ⟨_, _, ⟨T117, L117, k117, n117⟩, -, X117, ⟨Lc117, hQ117, l117, y117, z117⟩, st117⟩ := Jvm.LawKit.callS X108 hx (y := (⟨"java/util/List", "of", "([Ljava/lang/Object;)Ljava/util/List;"⟩ : MethodName)) hown (mvT hZ (own_w hw 152 rfl)) (mvT hZ (own_w hw 153 rfl)) (mvT hZ (own_w hw 101 rfl)) (mvT hZ (own_w hw 154 rfl)) (by decide) (backOf (W := 0) (rm19 l Z a0 hw [] x109 x110 x0 x1 T108.heap n0 (Nat.le_trans Z0 K111.1) q108_V) hZ (own_w hw 154 rfl) (own_w hw 101 rfl) (by decide) (by decide)) (g := (mkF m 50 #[.val (.ref a1), .unset] [(.ref x109)])) rfl (by rw [hml]; rfl) (argsL := [(.ref x109)]) (rest := []) (lenOf pd10 rfl) rfl (by show 2 * 0 + _ ≤ _; exact Nat.le_of_eq rfl) (hb hby d13_50) (fun _ _ => ⟨rfl, rfl, (by decide : 1 + 1 ≤ _), (by decide : 2 + 2 ≤ _)⟩)
 dsimp only [Pt.U, Pt.locs, Pt.cells, Pt.slots] at X117 l117 y117 z117 st117 hQ117
 subst l117 y117 z117
 obtain ⟨x118, rfl, N117q, q117_K, q117_F0, q117_F1, q117_F2, q117_g, q117_z⟩ := hQ117
 have N117 := Fr.app N108 N117q
 have K119 : Keep h0 T117.heap [] := K111.trans q117_K all0
 have ne_a1_x118 : a1 ≠ x118 := Nat.ne_of_lt (Nat.lt_of_lt_of_le f112.lt q117_z)
 have ne_ed_x118 : ed ≠ x118 := Nat.ne_of_lt (Nat.lt_of_lt_of_le f113.lt q117_z)
 have ne_x0_x118 : x0 ≠ x118 := Nat.ne_of_lt (Nat.lt_of_lt_of_le f115.lt q117_z)
 have ne_x1_x118 : x1 ≠ x118 := Nat.ne_of_lt (Nat.lt_of_lt_of_le f116.lt q117_z)
 have ne_x109_x118 : x109 ≠ x118 := Nat.ne_of_lt (Nat.lt_of_lt_of_le q108_V.lt q117_z)
 obtain ⟨fs, hr, hrun, hended, hW, hsame⟩ := X117.leave (v := some (.ref x118)) (fun h => by rw [Bd.returns] at h; cases h)
 refine ⟨_, _, (gc (gcT p107 st108) st117) _ (retOut X117 hx (w := (.ref x118)) (i := .areturn) Bd.returns rfl (Or.inr (Or.inr (Or.inr (Or.inr ⟨rfl, rfl, rfl⟩)))) (hb hby d13_53) hr), hrun, hended, _, _, rfl, ?_, ⟨_, rfl⟩, hW, hsame.mono (by decide) (by decide)⟩
 show Q13_2 Z a1 mc ed kd x0 x1 de kde el ea kea em mr h0 n0 _ T117.heap _
 exact ⟨x118, rfl, N117, K119, q117_F0, q117_F1, q117_F2, q117_g, (Nat.le_trans K111.1 q117_z)⟩
theorem d12_0 : decode jdk_40_method_48_code 0 = .ok (.aload_n 0, 1) := by decide +kernel
theorem d12_1 : decode jdk_40_method_48_code 1 = .ok (.invokestatic 112, 3) := by decide +kernel
theorem d12_4 : decode jdk_40_method_48_code 4 = .ok (.areturn, 1) := by decide +kernel
theorem pd11 : parseMethodDescriptor "(Ljava/util/Collection;)Ljava/util/List;" = some ⟨[(.object "java/util/Collection")], some (.object "java/util/List")⟩ := by decide +kernel
theorem pn12 : plainFor (⟨"java/util/List", "copyOf", "(Ljava/util/Collection;)Ljava/util/List;"⟩ : MethodName) = true := plainFor_of_name (by first | (simp [plainName, overriddenIn]; done) | decide +kernel)
theorem ef_rm12_2 (m : MethodId) (a1 : Addr) (mc : Int32) (ed : Addr) (kd : ClassId) (x0 : Addr) (x1 : Addr) (de : Addr) (kde : ClassId) (el : Addr) (ea : Addr) (kea : ClassId) (em : Addr) (mr : Addr) : entryFrame m #[(.ref a1)] 1 = mkF m 0 #[.val (.ref a1)] [] := by first | (simp [entryFrame, mkF, argsToLocals, Value.category]; done) | rfl
def Q12_2 (Z : State) (a1 : Addr) (mc : Int32) (ed : Addr) (kd : ClassId) (x0 : Addr) (x1 : Addr) (de : Addr) (kde : ClassId) (el : Addr) (ea : Addr) (kea : ClassId) (em : Addr) (mr : Addr) (h0 : Heap) (n0 : Nat) (v : Option Value) (h : Heap) (L : List Loc) : Prop := ∃ (b : Addr), v = some (.ref b) ∧ Fr n0 L ∧ (Keep h0 h []) ∧ (Exa Z h b "java/util/ImmutableCollections$List12") ∧ (Fld Z h b "java/util/ImmutableCollections$List12" "e0" "Ljava/lang/Object;" (.ref x0)) ∧ (Fld Z h b "java/util/ImmutableCollections$List12" "e1" "Ljava/lang/Object;" (.ref x1)) ∧ (n0 ≤ b) ∧ (h0.size ≤ b)
set_option maxRecDepth 65536 in
set_option maxHeartbeats 40000000 in
theorem rm12_2 (l : Launch) (Z : State) (a0 : Array Value) (hw : ∀ d ∈ tables_1, d.before a0 Z = true) (ws : List Jvm.Cond) (a1 : Addr) (mc : Int32) (ed : Addr) (kd : ClassId) (x0 : Addr) (x1 : Addr) (de : Addr) (kde : ClassId) (el : Addr) (ea : Addr) (kea : ClassId) (em : Addr) (mr : Addr) (h0 : Heap) (n0 : Nat) (Z0 : n0 ≤ h0.size) (O1 : Old Z n0 h0) (G : own_H Z de kde el ea kea em mr) (A0 : Exa Z h0 a1 "java/util/ArrayList") (A1 : Fld Z h0 a1 "java/util/AbstractList" "modCount" "I" (.int mc)) (A2 : Fld Z h0 a1 "java/util/ArrayList" "elementData" "[Ljava/lang/Object;" (.ref ed)) (A3 : Fld Z h0 a1 "java/util/ArrayList" "size" "I" (.int (2 : Int32))) (A4 : Arv Z h0 ed kd (.object "java/lang/Object") (10 : Int32) [(.ref x0), (.ref x1), .null, .null, .null, .null, .null, .null, .null, .null] .null) (A5 : Exa Z h0 ed "[Ljava/lang/Object;") (A6 : Exa Z h0 x0 "com/example/arcward/arcward/model/Variable") (A7 : Exa Z h0 x1 "com/example/arcward/arcward/model/Variable") :
  MetFree l (⟨"java/util/List", "copyOf", "(Ljava/util/Collection;)Ljava/util/List;"⟩ : MethodName) (head1 (Jvm.Cond.code (⟨"java/util/List", "copyOf", "(Ljava/util/Collection;)Ljava/util/List;"⟩ : MethodName) jdk_40_method_48_code 1 (some (.object "java/util/List")) :: ws) ({ frames := 7, cells := 2, slots := 4, locals := 89 } : Room)) (fun a U => a = #[(.ref a1)] ∧ Z.Warmed39 U.vm ∧ U.heap = h0) (fun _ _ _ _ _ => True) (fun _ U o U' => ∃ v L, o = .returned v ∧ Q12_2 Z a1 mc ed kd x0 x1 de kde el ea kea em mr h0 n0 v U'.heap L ∧ FrameEnd U o U' L ({ frames := 7, cells := 2, slots := 4, locals := 89 } : Room).cells ({ frames := 7, cells := 2, slots := 4, locals := 89 } : Room).slots) := by
 refine MetFree.of_bodySF pn12 hisR ?_
 intro p e s m args below meth c s₁ Bd hml0 hP hK
 obtain ⟨rfl, hZ, hh⟩ := hP
 have hx := Bd.exec
 have hby := Bd.bytes
 have hml : c.maxLocals = 1 := hml0
 have hown : s.vm.findClass "java/util/List" = some m.cls := findClass_of_methodNamed Bd.named
 have hnm := (name_of_methodNamed Bd.named Bd.method).1
 have X0 : Stand p l e ({ frames := 7, cells := 2, slots := 4, locals := 89 } : Room) s m #[(.ref a1)] below meth c s₁ [] 0 0 := Stand.of_body Bd
 have e0 : s₁.heap = h0 := by rw [← hh, Bd.state]; rfl
 have N0 := Fr.nil n0
 have p0 : Go p.tables e below (s₁.setTop (entryFrame m #[(.ref a1)] 1)) (s₁.setTop (mkF m 0 #[.val (.ref a1)] [])) := fun t_ k_ => castTop (ef_rm12_2 m a1 mc ed kd x0 x1 de kde el ea kea em mr) k_
 have p101 : Go p.tables e below _ (s₁.setTop (mkF m 1 #[.val (.ref a1)] [(.ref a1)])) := fun t_ k_ => p0 t_ (by
  refine XS.aloadN X0.here hx rfl (hb hby d12_0) rfl rfl ?_
  exact k_)
 obtain ⟨_, _, ⟨T102, L102, k102, n102⟩, -, X102, ⟨Lc102, hQ102, l102, y102, z102⟩, st102⟩ := Jvm.LawKit.callS X0 hx (y := (⟨"java/util/ImmutableCollections", "listCopy", "(Ljava/util/Collection;)Ljava/util/List;"⟩ : MethodName)) hown (mvT hZ (own_w hw 103 rfl)) (mvT hZ (own_w hw 104 rfl)) (mvT hZ (own_w hw 105 rfl)) (mvT hZ (own_w hw 106 rfl)) (by decide) (backOf (W := 0) (rm13_2 l Z a0 hw [] a1 mc ed kd x0 x1 de kde el ea kea em mr h0 n0 (Nat.le_trans Z0 (Keep.refl h0 []).1) O1 G A0 A1 A2 A3 A4 A5 A6 A7) hZ (own_w hw 106 rfl) (own_w hw 105 rfl) (by decide) (by decide)) (g := (mkF m 1 #[.val (.ref a1)] [(.ref a1)])) rfl (by rw [hml]; rfl) (argsL := [(.ref a1)]) (rest := []) (lenOf pd11 rfl) rfl (by show 2 * 0 + _ ≤ _; exact Nat.le_of_eq rfl) (hb hby d12_1) (fun _ _ => ⟨rfl, e0, (by decide : 0 + 2 ≤ _), (by decide : 0 + 4 ≤ _)⟩)
 dsimp only [Pt.U, Pt.locs, Pt.cells, Pt.slots] at X102 l102 y102 z102 st102 hQ102
 subst l102 y102 z102
 obtain ⟨x103, rfl, N102q, q102_K, q102_F0, q102_F1, q102_F2, q102_g, q102_z⟩ := hQ102
 have N102 := Fr.app N0 N102q
 have K104 : Keep h0 T102.heap [] := (Keep.refl h0 []).trans q102_K all0
 have ne_a1_x103 : a1 ≠ x103 := Nat.ne_of_lt (Nat.lt_of_lt_of_le A0.lt q102_z)
 have ne_ed_x103 : ed ≠ x103 := Nat.ne_of_lt (Nat.lt_of_lt_of_le A4.lt q102_z)
 have ne_x0_x103 : x0 ≠ x103 := Nat.ne_of_lt (Nat.lt_of_lt_of_le A6.lt q102_z)
 have ne_x1_x103 : x1 ≠ x103 := Nat.ne_of_lt (Nat.lt_of_lt_of_le A7.lt q102_z)
 obtain ⟨fs, hr, hrun, hended, hW, hsame⟩ := X102.leave (v := some (.ref x103)) (fun h => by rw [Bd.returns] at h; cases h)
 refine ⟨_, _, (gc p101 st102) _ (retOut X102 hx (w := (.ref x103)) (i := .areturn) Bd.returns rfl (Or.inr (Or.inr (Or.inr (Or.inr ⟨rfl, rfl, rfl⟩)))) (hb hby d12_4) hr), hrun, hended, _, _, rfl, ?_, ⟨_, rfl⟩, hW, hsame.mono (by decide) (by decide)⟩
 show Q12_2 Z a1 mc ed kd x0 x1 de kde el ea kea em mr h0 n0 _ T102.heap _
 exact ⟨x103, rfl, N102, K104, q102_F0, q102_F1, q102_F2, q102_g, (Nat.le_trans (Keep.refl h0 []).1 q102_z)⟩
theorem d13_40 : decode jdk_56_method_3_code 40 = .ok (.invokestatic 26, 3) := by decide +kernel
theorem d13_43 : decode jdk_56_method_3_code 43 = .ok (.areturn, 1) := by decide +kernel
theorem pd12 : parseMethodDescriptor "()Ljava/util/List;" = some ⟨[], some (.object "java/util/List")⟩ := by decide +kernel
theorem ef_rm13_0 (m : MethodId) (a1 : Addr) (mc : Int32) (de : Addr) (kde : ClassId) (el : Addr) (ea : Addr) (kea : ClassId) (em : Addr) (mr : Addr) : entryFrame m #[(.ref a1)] 2 = mkF m 0 #[.val (.ref a1), .unset] [] := by first | (simp [entryFrame, mkF, argsToLocals, Value.category]; done) | rfl
def Q13_0 (Z : State) (a1 : Addr) (mc : Int32) (de : Addr) (kde : ClassId) (el : Addr) (ea : Addr) (kea : ClassId) (em : Addr) (mr : Addr) (h0 : Heap) (n0 : Nat) (v : Option Value) (h : Heap) (L : List Loc) : Prop := v = some (.ref el) ∧ Fr n0 L ∧ (h = h0)
set_option maxRecDepth 65536 in
set_option maxHeartbeats 40000000 in
theorem rm13_0 (l : Launch) (Z : State) (a0 : Array Value) (hw : ∀ d ∈ tables_1, d.before a0 Z = true) (ws : List Jvm.Cond) (a1 : Addr) (mc : Int32) (de : Addr) (kde : ClassId) (el : Addr) (ea : Addr) (kea : ClassId) (em : Addr) (mr : Addr) (h0 : Heap) (n0 : Nat) (Z0 : n0 ≤ h0.size) (O1 : Old Z n0 h0) (G : own_H Z de kde el ea kea em mr) (A0 : Exa Z h0 a1 "java/util/ArrayList") (A1 : Fld Z h0 a1 "java/util/AbstractList" "modCount" "I" (.int mc)) (A2 : Fld Z h0 a1 "java/util/ArrayList" "elementData" "[Ljava/lang/Object;" (.ref de)) (A3 : Fld Z h0 a1 "java/util/ArrayList" "size" "I" (.int (0 : Int32))) :
  MetFree l (⟨"java/util/ImmutableCollections", "listCopy", "(Ljava/util/Collection;)Ljava/util/List;"⟩ : MethodName) (head1 (Jvm.Cond.code (⟨"java/util/ImmutableCollections", "listCopy", "(Ljava/util/Collection;)Ljava/util/List;"⟩ : MethodName) jdk_56_method_3_code 2 (some (.object "java/util/List")) :: ws) ({ frames := 1, cells := 0, slots := 0, locals := 12 } : Room)) (fun a U => a = #[(.ref a1)] ∧ Z.Warmed39 U.vm ∧ U.heap = h0) (fun _ _ _ _ _ => True) (fun _ U o U' => ∃ v L, o = .returned v ∧ Q13_0 Z a1 mc de kde el ea kea em mr h0 n0 v U'.heap L ∧ FrameEnd U o U' L ({ frames := 1, cells := 0, slots := 0, locals := 12 } : Room).cells ({ frames := 1, cells := 0, slots := 0, locals := 12 } : Room).slots) := by
 refine MetFree.of_bodySF pn13 hisR ?_
 intro p e s m args below meth c s₁ Bd hml0 hP hK
 obtain ⟨rfl, hZ, hh⟩ := hP
 have hx := Bd.exec
 have hby := Bd.bytes
 have hml : c.maxLocals = 2 := hml0
 have hown : s.vm.findClass "java/util/ImmutableCollections" = some m.cls := findClass_of_methodNamed Bd.named
 have hnm := (name_of_methodNamed Bd.named Bd.method).1
 have X0 : Stand p l e ({ frames := 1, cells := 0, slots := 0, locals := 12 } : Room) s m #[(.ref a1)] below meth c s₁ [] 0 0 := Stand.of_body Bd
 have e0 : s₁.heap = h0 := by rw [← hh, Bd.state]; rfl
 have N0 := Fr.nil n0
 have p0 : Go p.tables e below (s₁.setTop (entryFrame m #[(.ref a1)] 2)) (s₁.setTop (mkF m 0 #[.val (.ref a1), .unset] [])) := fun t_ k_ => castTop (ef_rm13_0 m a1 mc de kde el ea kea em mr) k_
 have p101 : Go p.tables e below _ (s₁.setTop (mkF m 1 #[.val (.ref a1), .unset] [(.ref a1)])) := fun t_ k_ => p0 t_ (by
  refine XS.aloadN X0.here hx rfl (hb hby d13_0) rfl rfl ?_
  exact k_)
 obtain ⟨T102, X102, e102, st102⟩ := instNo X0 hx hZ hown (own_w hw 107 rfl) e0 A0 (nsNo (own_w hw 108 rfl) (NS.step (own_w hw 108 rfl) (NS.step (own_w hw 109 rfl) (NS.step (own_w hw 110 rfl) (nsRoot (own_w hw 111 rfl) (own_w hw 195 rfl) (by decide)) (by decide)) (by decide)) (by decide)) (own_w hw 195 rfl) rfl (by decide)) (g := (mkF m 1 #[.val (.ref a1), .unset] [(.ref a1)])) rfl rfl (hb hby d13_1)
 have p103 : Go p.tables e below _ (T102.setTop (mkF m 8 #[.val (.ref a1), .unset] [(.ref a1)])) := fun t_ k_ => (gc p101 st102) t_ (by
  refine XS.ifNo X102.here hx rfl (hb hby d13_4) rfl ((if0 _ _).trans (teq (by decide : ((0 : Int32) = (0 : Int32)))).2) ?_
  refine XS.aloadN X102.here hx rfl (hb hby d13_7) rfl rfl ?_
  exact k_)
 obtain ⟨T104, X104, e104, st104⟩ := instNo X102 hx hZ hown (own_w hw 112 rfl) e102 A0 (nsNo (own_w hw 108 rfl) (NS.step (own_w hw 108 rfl) (NS.step (own_w hw 109 rfl) (NS.step (own_w hw 110 rfl) (nsRoot (own_w hw 111 rfl) (own_w hw 232 rfl) (by decide)) (by decide)) (by decide)) (by decide)) (own_w hw 232 rfl) rfl (by decide)) (g := (mkF m 8 #[.val (.ref a1), .unset] [(.ref a1)])) rfl rfl (hb hby d13_8)
 have p105 : Go p.tables e below _ (T104.setTop (mkF m 32 #[.val (.ref a1), .unset] [(.ref a1)])) := fun t_ k_ => (gc p103 st104) t_ (by
  refine XS.ifYes X104.here hx rfl (pc0 := 11) (pc' := 31) rfl (hb hby d13_11) rfl ((if0 _ _).trans (teq (by decide : ((0 : Int32) = (0 : Int32)))).1) (by decide) (by decide) ?_
  refine XS.aloadN X104.here hx rfl (hb hby d13_31) rfl rfl ?_
  exact k_)
 obtain ⟨cq106, kq106, q106a, q106b, q106c⟩ := isOf hZ e104 A0
 obtain ⟨_, _, ⟨T106, L106, k106, n106⟩, -, X106, ⟨Lc106, hQ106, l106, y106, z106⟩, st106⟩ := X104.interfaceBack hx (xi := (⟨"java/util/Collection", "isEmpty", "()Z"⟩ : MethodName)) (y := (⟨"java/util/ArrayList", "isEmpty", "()Z"⟩ : MethodName)) hown (mvT hZ (own_w hw 113 rfl)) (mvT hZ (own_w hw 114 rfl)) (mvT hZ (own_w hw 115 rfl)) (mvT hZ (own_w hw 116 rfl)) (mvT hZ (own_w hw 117 rfl)) (mvT hZ (own_w hw 118 rfl)) (mvT hZ (own_w hw 119 rfl)) (mvT hZ (own_w hw 120 rfl)) (by decide) (backOf (W := 0) (rm14_0 l Z a0 hw [] a1 h0 n0 (Nat.le_trans Z0 (Keep.refl h0 []).1) A3) hZ (own_w hw 121 rfl) (own_w hw 2 rfl) (by decide) (by decide)) q106a q106b q106c (g := (mkF m 32 #[.val (.ref a1), .unset] [(.ref a1)])) rfl (by rw [hml]; rfl) (Steps.refl _) (argsL := []) (rest := []) (lenOf pd9 rfl) rfl (by show 2 * 0 + _ ≤ _; exact Nat.le_of_eq rfl) (hb hby d13_32) (fun _ _ => ⟨rfl, e104, (by decide : 0 + 0 ≤ _), (by decide : 0 + 0 ≤ _)⟩)
 dsimp only [Pt.U, Pt.locs, Pt.cells, Pt.slots] at X106 l106 y106 z106 st106 hQ106
 subst l106 y106 z106
 obtain ⟨rfl, N106q, q106_hh⟩ := hQ106
 have N106 := Fr.app N0 N106q
 have p107 : Go p.tables e below _ (T106.setTop (mkF m 40 #[.val (.ref a1), .unset] [])) := fun t_ k_ => (gcT p105 st106) t_ (by
  refine XS.ifNo X106.here hx rfl (hb hby d13_37) rfl ((if0 _ _).trans (feq (by decide : ¬ ((1 : Int32) = (0 : Int32)))).1) ?_
  exact k_)
 obtain ⟨_, _, ⟨T108, L108, k108, n108⟩, -, X108, ⟨Lc108, hQ108, l108, y108, z108⟩, st108⟩ := Jvm.LawKit.callS X106 hx (y := (⟨"java/util/List", "of", "()Ljava/util/List;"⟩ : MethodName)) hown (mvT hZ (own_w hw 186 rfl)) (mvT hZ (own_w hw 187 rfl)) (mvT hZ (own_w hw 101 rfl)) (mvT hZ (own_w hw 188 rfl)) (by decide) (backOf (W := 0) (rm24 l Z a0 hw [] de kde el ea kea em mr h0 n0 (Nat.le_trans Z0 (Keep.refl h0 []).1) O1 G) hZ (own_w hw 188 rfl) (own_w hw 101 rfl) (by decide) (by decide)) (g := (mkF m 40 #[.val (.ref a1), .unset] [])) rfl (by rw [hml]; rfl) (argsL := []) (rest := []) (lenOf pd12 rfl) rfl (by show 2 * 0 + _ ≤ _; exact Nat.le_of_eq rfl) (hb hby d13_40) (fun _ _ => ⟨rfl, q106_hh, (by decide : 0 + 0 ≤ _), (by decide : 0 + 0 ≤ _)⟩)
 dsimp only [Pt.U, Pt.locs, Pt.cells, Pt.slots] at X108 l108 y108 z108 st108 hQ108
 subst l108 y108 z108
 obtain ⟨rfl, N108q, q108_hh⟩ := hQ108
 have N108 := Fr.app N106 N108q
 obtain ⟨fs, hr, hrun, hended, hW, hsame⟩ := X108.leave (v := some (.ref el)) (fun h => by rw [Bd.returns] at h; cases h)
 refine ⟨_, _, (gc p107 st108) _ (retOut X108 hx (w := (.ref el)) (i := .areturn) Bd.returns rfl (Or.inr (Or.inr (Or.inr (Or.inr ⟨rfl, rfl, rfl⟩)))) (hb hby d13_43) hr), hrun, hended, _, _, rfl, ?_, ⟨_, rfl⟩, hW, hsame.mono (by decide) (by decide)⟩
 show Q13_0 Z a1 mc de kde el ea kea em mr h0 n0 _ T108.heap _
 rw [q108_hh]
 exact ⟨rfl, N108, rfl⟩
theorem ef_rm12_0 (m : MethodId) (a1 : Addr) (mc : Int32) (de : Addr) (kde : ClassId) (el : Addr) (ea : Addr) (kea : ClassId) (em : Addr) (mr : Addr) : entryFrame m #[(.ref a1)] 1 = mkF m 0 #[.val (.ref a1)] [] := by first | (simp [entryFrame, mkF, argsToLocals, Value.category]; done) | rfl
def Q12_0 (Z : State) (a1 : Addr) (mc : Int32) (de : Addr) (kde : ClassId) (el : Addr) (ea : Addr) (kea : ClassId) (em : Addr) (mr : Addr) (h0 : Heap) (n0 : Nat) (v : Option Value) (h : Heap) (L : List Loc) : Prop := v = some (.ref el) ∧ Fr n0 L ∧ (h = h0)
set_option maxRecDepth 65536 in
set_option maxHeartbeats 40000000 in
theorem rm12_0 (l : Launch) (Z : State) (a0 : Array Value) (hw : ∀ d ∈ tables_1, d.before a0 Z = true) (ws : List Jvm.Cond) (a1 : Addr) (mc : Int32) (de : Addr) (kde : ClassId) (el : Addr) (ea : Addr) (kea : ClassId) (em : Addr) (mr : Addr) (h0 : Heap) (n0 : Nat) (Z0 : n0 ≤ h0.size) (O1 : Old Z n0 h0) (G : own_H Z de kde el ea kea em mr) (A0 : Exa Z h0 a1 "java/util/ArrayList") (A1 : Fld Z h0 a1 "java/util/AbstractList" "modCount" "I" (.int mc)) (A2 : Fld Z h0 a1 "java/util/ArrayList" "elementData" "[Ljava/lang/Object;" (.ref de)) (A3 : Fld Z h0 a1 "java/util/ArrayList" "size" "I" (.int (0 : Int32))) :
  MetFree l (⟨"java/util/List", "copyOf", "(Ljava/util/Collection;)Ljava/util/List;"⟩ : MethodName) (head1 (Jvm.Cond.code (⟨"java/util/List", "copyOf", "(Ljava/util/Collection;)Ljava/util/List;"⟩ : MethodName) jdk_40_method_48_code 1 (some (.object "java/util/List")) :: ws) ({ frames := 2, cells := 0, slots := 0, locals := 25 } : Room)) (fun a U => a = #[(.ref a1)] ∧ Z.Warmed39 U.vm ∧ U.heap = h0) (fun _ _ _ _ _ => True) (fun _ U o U' => ∃ v L, o = .returned v ∧ Q12_0 Z a1 mc de kde el ea kea em mr h0 n0 v U'.heap L ∧ FrameEnd U o U' L ({ frames := 2, cells := 0, slots := 0, locals := 25 } : Room).cells ({ frames := 2, cells := 0, slots := 0, locals := 25 } : Room).slots) := by
 refine MetFree.of_bodySF pn12 hisR ?_
 intro p e s m args below meth c s₁ Bd hml0 hP hK
 obtain ⟨rfl, hZ, hh⟩ := hP
 have hx := Bd.exec
 have hby := Bd.bytes
 have hml : c.maxLocals = 1 := hml0
 have hown : s.vm.findClass "java/util/List" = some m.cls := findClass_of_methodNamed Bd.named
 have hnm := (name_of_methodNamed Bd.named Bd.method).1
 have X0 : Stand p l e ({ frames := 2, cells := 0, slots := 0, locals := 25 } : Room) s m #[(.ref a1)] below meth c s₁ [] 0 0 := Stand.of_body Bd
 have e0 : s₁.heap = h0 := by rw [← hh, Bd.state]; rfl
 have N0 := Fr.nil n0
 have p0 : Go p.tables e below (s₁.setTop (entryFrame m #[(.ref a1)] 1)) (s₁.setTop (mkF m 0 #[.val (.ref a1)] [])) := fun t_ k_ => castTop (ef_rm12_0 m a1 mc de kde el ea kea em mr) k_
 have p101 : Go p.tables e below _ (s₁.setTop (mkF m 1 #[.val (.ref a1)] [(.ref a1)])) := fun t_ k_ => p0 t_ (by
  refine XS.aloadN X0.here hx rfl (hb hby d12_0) rfl rfl ?_
  exact k_)
 obtain ⟨_, _, ⟨T102, L102, k102, n102⟩, -, X102, ⟨Lc102, hQ102, l102, y102, z102⟩, st102⟩ := Jvm.LawKit.callS X0 hx (y := (⟨"java/util/ImmutableCollections", "listCopy", "(Ljava/util/Collection;)Ljava/util/List;"⟩ : MethodName)) hown (mvT hZ (own_w hw 103 rfl)) (mvT hZ (own_w hw 104 rfl)) (mvT hZ (own_w hw 105 rfl)) (mvT hZ (own_w hw 106 rfl)) (by decide) (backOf (W := 0) (rm13_0 l Z a0 hw [] a1 mc de kde el ea kea em mr h0 n0 (Nat.le_trans Z0 (Keep.refl h0 []).1) O1 G A0 A1 A2 A3) hZ (own_w hw 106 rfl) (own_w hw 105 rfl) (by decide) (by decide)) (g := (mkF m 1 #[.val (.ref a1)] [(.ref a1)])) rfl (by rw [hml]; rfl) (argsL := [(.ref a1)]) (rest := []) (lenOf pd11 rfl) rfl (by show 2 * 0 + _ ≤ _; exact Nat.le_of_eq rfl) (hb hby d12_1) (fun _ _ => ⟨rfl, e0, (by decide : 0 + 0 ≤ _), (by decide : 0 + 0 ≤ _)⟩)
 dsimp only [Pt.U, Pt.locs, Pt.cells, Pt.slots] at X102 l102 y102 z102 st102 hQ102
 subst l102 y102 z102
 obtain ⟨rfl, N102q, q102_hh⟩ := hQ102
 have N102 := Fr.app N0 N102q
 obtain ⟨fs, hr, hrun, hended, hW, hsame⟩ := X102.leave (v := some (.ref el)) (fun h => by rw [Bd.returns] at h; cases h)
 refine ⟨_, _, (gc p101 st102) _ (retOut X102 hx (w := (.ref el)) (i := .areturn) Bd.returns rfl (Or.inr (Or.inr (Or.inr (Or.inr ⟨rfl, rfl, rfl⟩)))) (hb hby d12_4) hr), hrun, hended, _, _, rfl, ?_, ⟨_, rfl⟩, hW, hsame.mono (by decide) (by decide)⟩
 show Q12_0 Z a1 mc de kde el ea kea em mr h0 n0 _ T102.heap _
 rw [q102_hh]
 exact ⟨rfl, N102, rfl⟩
theorem d25_0 : decode jdk_44_method_3_code 0 = .ok (.aload_n 0, 1) := by decide +kernel
theorem d25_1 : decode jdk_44_method_3_code 1 = .ok (.getfield 24, 3) := by decide +kernel
theorem d25_4 : decode jdk_44_method_3_code 4 = .ok (.getstatic 19, 3) := by decide +kernel
theorem d25_7 : decode jdk_44_method_3_code 7 = .ok (.if_acmp .eq 7, 3) := by decide +kernel
theorem d25_10 : decode jdk_44_method_3_code 10 = .ok (.iconst 2, 1) := by decide +kernel
theorem d25_11 : decode jdk_44_method_3_code 11 = .ok (.goto 4, 3) := by decide +kernel
theorem d25_15 : decode jdk_44_method_3_code 15 = .ok (.ireturn, 1) := by decide +kernel
theorem pn25 : plainFor (⟨"java/util/ImmutableCollections$List12", "size", "()I"⟩ : MethodName) = true := plainFor_of_name (by first | (simp [plainName, overriddenIn]; done) | decide +kernel)
theorem ef_rm25 (m : MethodId) (a1 : Addr) (x0 : Addr) (x1 : Addr) (de : Addr) (kde : ClassId) (el : Addr) (ea : Addr) (kea : ClassId) (em : Addr) (mr : Addr) : entryFrame m #[(.ref a1)] 1 = mkF m 0 #[.val (.ref a1)] [] := by first | (simp [entryFrame, mkF, argsToLocals, Value.category]; done) | rfl
def Q25 (Z : State) (a1 : Addr) (x0 : Addr) (x1 : Addr) (de : Addr) (kde : ClassId) (el : Addr) (ea : Addr) (kea : ClassId) (em : Addr) (mr : Addr) (h0 : Heap) (n0 : Nat) (v : Option Value) (h : Heap) (L : List Loc) : Prop := v = some (.int (2 : Int32)) ∧ Fr n0 L ∧ (h = h0)
set_option maxRecDepth 65536 in
set_option maxHeartbeats 40000000 in
theorem rm25 (l : Launch) (Z : State) (a0 : Array Value) (hw : ∀ d ∈ tables_1, d.before a0 Z = true) (ws : List Jvm.Cond) (a1 : Addr) (x0 : Addr) (x1 : Addr) (de : Addr) (kde : ClassId) (el : Addr) (ea : Addr) (kea : ClassId) (em : Addr) (mr : Addr) (h0 : Heap) (n0 : Nat) (Z0 : n0 ≤ h0.size) (O1 : Old Z n0 h0) (G : own_H Z de kde el ea kea em mr) (F0 : Exa Z h0 a1 "java/util/ImmutableCollections$List12") (F1 : Fld Z h0 a1 "java/util/ImmutableCollections$List12" "e0" "Ljava/lang/Object;" (.ref x0)) (F2 : Fld Z h0 a1 "java/util/ImmutableCollections$List12" "e1" "Ljava/lang/Object;" (.ref x1)) (gx : n0 ≤ x1) :
  MetFree l (⟨"java/util/ImmutableCollections$List12", "size", "()I"⟩ : MethodName) (head1 (Jvm.Cond.code (⟨"java/util/ImmutableCollections$List12", "size", "()I"⟩ : MethodName) jdk_44_method_3_code 1 (some .int) :: ws) ({ frames := 0, cells := 0, slots := 0, locals := 0 } : Room)) (fun a U => a = #[(.ref a1)] ∧ Z.Warmed39 U.vm ∧ U.heap = h0) (fun _ _ _ _ _ => True) (fun _ U o U' => ∃ v L, o = .returned v ∧ Q25 Z a1 x0 x1 de kde el ea kea em mr h0 n0 v U'.heap L ∧ FrameEnd U o U' L ({ frames := 0, cells := 0, slots := 0, locals := 0 } : Room).cells ({ frames := 0, cells := 0, slots := 0, locals := 0 } : Room).slots) := by
 refine MetFree.of_bodySF pn25 hisR ?_
 intro p e s m args below meth c s₁ Bd hml0 hP hK
 obtain ⟨rfl, hZ, hh⟩ := hP
 have hx := Bd.exec
 have hby := Bd.bytes
 have hml : c.maxLocals = 1 := hml0
 have hown : s.vm.findClass "java/util/ImmutableCollections$List12" = some m.cls := findClass_of_methodNamed Bd.named
 have hnm := (name_of_methodNamed Bd.named Bd.method).1
 have X0 : Stand p l e ({ frames := 0, cells := 0, slots := 0, locals := 0 } : Room) s m #[(.ref a1)] below meth c s₁ [] 0 0 := Stand.of_body Bd
 have e0 : s₁.heap = h0 := by rw [← hh, Bd.state]; rfl
 have N0 := Fr.nil n0
 have p0 : Go p.tables e below (s₁.setTop (entryFrame m #[(.ref a1)] 1)) (s₁.setTop (mkF m 0 #[.val (.ref a1)] [])) := fun t_ k_ => castTop (ef_rm25 m a1 x0 x1 de kde el ea kea em mr) k_
 have p101 : Go p.tables e below _ (s₁.setTop (mkF m 1 #[.val (.ref a1)] [(.ref a1)])) := fun t_ k_ => p0 t_ (by
  refine XS.aloadN X0.here hx rfl (hb hby d25_0) rfl rfl ?_
  exact k_)
 obtain ⟨T102, X102, e102, st102⟩ := getF X0 hx hZ hown (host := "") (Or.inl (own_w hw 182 rfl)) Via.refl e0 F2 (g := (mkF m 1 #[.val (.ref a1)] [(.ref a1)])) rfl rfl (hb hby d25_1)
 obtain ⟨T103, X103, e103, st103⟩ := getS2 X102 hx hZ hown (Or.inr (own_w hw 201 rfl)) Via.refl e102 (G.2.2.2.2.2.2.2.1.ext O1.2) (g := (mkF m 4 #[.val (.ref a1)] [(.ref x1)])) rfl (hb hby d25_4)
 have p104 : Go p.tables e below _ (T103.setTop (mkF m 15 #[.val (.ref a1)] [(.int (2 : Int32))])) := fun t_ k_ => (gc (gc p101 st102) st103) t_ (by
  refine Jvm.RoadKit.acmp (g := (mkF m 7 #[.val (.ref a1)] [(.ref em), (.ref x1)])) X103 hx rfl rfl rfl (pc0 := 7) (pc' := 10) (same := false) rfl (hb hby d25_7) rfl (decide_eq_false fun q => (Ne.symm (O1.ne G.2.2.2.2.2.2.2.2.1 gx)) (Value.ref.inj q)) (by decide) (by decide) ?_
  refine XS.iconst X103.here hx rfl (hb hby d25_10) ?_
  refine XS.goto X103.here hx rfl (pc0 := 11) (pc' := 15) rfl (hb hby d25_11) (by decide) (by decide) ?_
  exact k_)
 obtain ⟨fs, hr, hrun, hended, hW, hsame⟩ := X103.leave (v := some (.int (2 : Int32))) (fun h => by rw [Bd.returns] at h; cases h)
 refine ⟨_, _, p104 _ (retI X103 hx Bd.returns (hb hby d25_15) hr), hrun, hended, _, _, rfl, ?_, ⟨_, rfl⟩, hW, hsame.mono (by decide) (by decide)⟩
 show Q25 Z a1 x0 x1 de kde el ea kea em mr h0 n0 _ T103.heap _
 rw [e103]
 exact ⟨rfl, N0, rfl⟩
theorem d26_0 : decode jdk_44_method_5_code 0 = .ok (.iload_n 1, 1) := by decide +kernel
theorem d26_1 : decode jdk_44_method_5_code 1 = .ok (.ifCond .ne 8, 3) := by decide +kernel
theorem d26_4 : decode jdk_44_method_5_code 4 = .ok (.aload_n 0, 1) := by decide +kernel
theorem d26_5 : decode jdk_44_method_5_code 5 = .ok (.getfield 13, 3) := by decide +kernel
theorem d26_8 : decode jdk_44_method_5_code 8 = .ok (.areturn, 1) := by decide +kernel
theorem pn26 : plainFor (⟨"java/util/ImmutableCollections$List12", "get", "(I)Ljava/lang/Object;"⟩ : MethodName) = true := plainFor_of_name (by first | (simp [plainName, overriddenIn]; done) | decide +kernel)
theorem ef_rm26_0 (m : MethodId) (a1 : Addr) (x0 : Addr) (x1 : Addr) (de : Addr) (kde : ClassId) (el : Addr) (ea : Addr) (kea : ClassId) (em : Addr) (mr : Addr) : entryFrame m #[(.ref a1), (.int (0 : Int32))] 2 = mkF m 0 #[.val (.ref a1), .val (.int (0 : Int32))] [] := by first | (simp [entryFrame, mkF, argsToLocals, Value.category]; done) | rfl
def Q26_0 (Z : State) (a1 : Addr) (x0 : Addr) (x1 : Addr) (de : Addr) (kde : ClassId) (el : Addr) (ea : Addr) (kea : ClassId) (em : Addr) (mr : Addr) (h0 : Heap) (n0 : Nat) (v : Option Value) (h : Heap) (L : List Loc) : Prop := v = some (.ref x0) ∧ Fr n0 L ∧ (h = h0)
set_option maxRecDepth 65536 in
set_option maxHeartbeats 40000000 in
theorem rm26_0 (l : Launch) (Z : State) (a0 : Array Value) (hw : ∀ d ∈ tables_1, d.before a0 Z = true) (ws : List Jvm.Cond) (a1 : Addr) (x0 : Addr) (x1 : Addr) (de : Addr) (kde : ClassId) (el : Addr) (ea : Addr) (kea : ClassId) (em : Addr) (mr : Addr) (h0 : Heap) (n0 : Nat) (Z0 : n0 ≤ h0.size) (O1 : Old Z n0 h0) (G : own_H Z de kde el ea kea em mr) (F0 : Exa Z h0 a1 "java/util/ImmutableCollections$List12") (F1 : Fld Z h0 a1 "java/util/ImmutableCollections$List12" "e0" "Ljava/lang/Object;" (.ref x0)) (F2 : Fld Z h0 a1 "java/util/ImmutableCollections$List12" "e1" "Ljava/lang/Object;" (.ref x1)) (gx : n0 ≤ x1) :
  MetFree l (⟨"java/util/ImmutableCollections$List12", "get", "(I)Ljava/lang/Object;"⟩ : MethodName) (head1 (Jvm.Cond.code (⟨"java/util/ImmutableCollections$List12", "get", "(I)Ljava/lang/Object;"⟩ : MethodName) jdk_44_method_5_code 2 (some (.object "java/lang/Object")) :: ws) ({ frames := 0, cells := 0, slots := 0, locals := 0 } : Room)) (fun a U => a = #[(.ref a1), (.int (0 : Int32))] ∧ Z.Warmed39 U.vm ∧ U.heap = h0) (fun _ _ _ _ _ => True) (fun _ U o U' => ∃ v L, o = .returned v ∧ Q26_0 Z a1 x0 x1 de kde el ea kea em mr h0 n0 v U'.heap L ∧ FrameEnd U o U' L ({ frames := 0, cells := 0, slots := 0, locals := 0 } : Room).cells ({ frames := 0, cells := 0, slots := 0, locals := 0 } : Room).slots) := by
 refine MetFree.of_bodySF pn26 hisR ?_
 intro p e s m args below meth c s₁ Bd hml0 hP hK
 obtain ⟨rfl, hZ, hh⟩ := hP
 have hx := Bd.exec
 have hby := Bd.bytes
 have hml : c.maxLocals = 2 := hml0
 have hown : s.vm.findClass "java/util/ImmutableCollections$List12" = some m.cls := findClass_of_methodNamed Bd.named
 have hnm := (name_of_methodNamed Bd.named Bd.method).1
 have X0 : Stand p l e ({ frames := 0, cells := 0, slots := 0, locals := 0 } : Room) s m #[(.ref a1), (.int (0 : Int32))] below meth c s₁ [] 0 0 := Stand.of_body Bd
 have e0 : s₁.heap = h0 := by rw [← hh, Bd.state]; rfl
 have N0 := Fr.nil n0
 have p0 : Go p.tables e below (s₁.setTop (entryFrame m #[(.ref a1), (.int (0 : Int32))] 2)) (s₁.setTop (mkF m 0 #[.val (.ref a1), .val (.int (0 : Int32))] [])) := fun t_ k_ => castTop (ef_rm26_0 m a1 x0 x1 de kde el ea kea em mr) k_
 have p101 : Go p.tables e below _ (s₁.setTop (mkF m 5 #[.val (.ref a1), .val (.int (0 : Int32))] [(.ref a1)])) := fun t_ k_ => p0 t_ (by
  refine XS.iloadN X0.here hx rfl (hb hby d26_0) rfl ?_
  refine XS.ifNo X0.here hx rfl (hb hby d26_1) rfl ((if0 _ _).trans (teq (by decide : ((0 : Int32) = (0 : Int32)))).2) ?_
  refine XS.aloadN X0.here hx rfl (hb hby d26_4) rfl rfl ?_
  exact k_)
 obtain ⟨T102, X102, e102, st102⟩ := getF X0 hx hZ hown (host := "") (Or.inl (own_w hw 180 rfl)) Via.refl e0 F1 (g := (mkF m 5 #[.val (.ref a1), .val (.int (0 : Int32))] [(.ref a1)])) rfl rfl (hb hby d26_5)
 obtain ⟨fs, hr, hrun, hended, hW, hsame⟩ := X102.leave (v := some (.ref x0)) (fun h => by rw [Bd.returns] at h; cases h)
 refine ⟨_, _, (gc p101 st102) _ (retOut X102 hx (w := (.ref x0)) (i := .areturn) Bd.returns rfl (Or.inr (Or.inr (Or.inr (Or.inr ⟨rfl, rfl, rfl⟩)))) (hb hby d26_8) hr), hrun, hended, _, _, rfl, ?_, ⟨_, rfl⟩, hW, hsame.mono (by decide) (by decide)⟩
 show Q26_0 Z a1 x0 x1 de kde el ea kea em mr h0 n0 _ T102.heap _
 rw [e102]
 exact ⟨rfl, N0, rfl⟩
theorem d26_9 : decode jdk_44_method_5_code 9 = .ok (.iload_n 1, 1) := by decide +kernel
theorem d26_10 : decode jdk_44_method_5_code 10 = .ok (.iconst 1, 1) := by decide +kernel
theorem d26_11 : decode jdk_44_method_5_code 11 = .ok (.if_icmp .ne 18, 3) := by decide +kernel
theorem d26_14 : decode jdk_44_method_5_code 14 = .ok (.aload_n 0, 1) := by decide +kernel
theorem d26_15 : decode jdk_44_method_5_code 15 = .ok (.getfield 24, 3) := by decide +kernel
theorem d26_18 : decode jdk_44_method_5_code 18 = .ok (.getstatic 19, 3) := by decide +kernel
theorem d26_21 : decode jdk_44_method_5_code 21 = .ok (.if_acmp .eq 8, 3) := by decide +kernel
theorem d26_24 : decode jdk_44_method_5_code 24 = .ok (.aload_n 0, 1) := by decide +kernel
theorem d26_25 : decode jdk_44_method_5_code 25 = .ok (.getfield 24, 3) := by decide +kernel
theorem d26_28 : decode jdk_44_method_5_code 28 = .ok (.areturn, 1) := by decide +kernel
theorem ef_rm26_1 (m : MethodId) (a1 : Addr) (x0 : Addr) (x1 : Addr) (de : Addr) (kde : ClassId) (el : Addr) (ea : Addr) (kea : ClassId) (em : Addr) (mr : Addr) : entryFrame m #[(.ref a1), (.int (1 : Int32))] 2 = mkF m 0 #[.val (.ref a1), .val (.int (1 : Int32))] [] := by first | (simp [entryFrame, mkF, argsToLocals, Value.category]; done) | rfl
def Q26_1 (Z : State) (a1 : Addr) (x0 : Addr) (x1 : Addr) (de : Addr) (kde : ClassId) (el : Addr) (ea : Addr) (kea : ClassId) (em : Addr) (mr : Addr) (h0 : Heap) (n0 : Nat) (v : Option Value) (h : Heap) (L : List Loc) : Prop := v = some (.ref x1) ∧ Fr n0 L ∧ (h = h0)
set_option maxRecDepth 65536 in
set_option maxHeartbeats 40000000 in
theorem rm26_1 (l : Launch) (Z : State) (a0 : Array Value) (hw : ∀ d ∈ tables_1, d.before a0 Z = true) (ws : List Jvm.Cond) (a1 : Addr) (x0 : Addr) (x1 : Addr) (de : Addr) (kde : ClassId) (el : Addr) (ea : Addr) (kea : ClassId) (em : Addr) (mr : Addr) (h0 : Heap) (n0 : Nat) (Z0 : n0 ≤ h0.size) (O1 : Old Z n0 h0) (G : own_H Z de kde el ea kea em mr) (F0 : Exa Z h0 a1 "java/util/ImmutableCollections$List12") (F1 : Fld Z h0 a1 "java/util/ImmutableCollections$List12" "e0" "Ljava/lang/Object;" (.ref x0)) (F2 : Fld Z h0 a1 "java/util/ImmutableCollections$List12" "e1" "Ljava/lang/Object;" (.ref x1)) (gx : n0 ≤ x1) :
  MetFree l (⟨"java/util/ImmutableCollections$List12", "get", "(I)Ljava/lang/Object;"⟩ : MethodName) (head1 (Jvm.Cond.code (⟨"java/util/ImmutableCollections$List12", "get", "(I)Ljava/lang/Object;"⟩ : MethodName) jdk_44_method_5_code 2 (some (.object "java/lang/Object")) :: ws) ({ frames := 0, cells := 0, slots := 0, locals := 0 } : Room)) (fun a U => a = #[(.ref a1), (.int (1 : Int32))] ∧ Z.Warmed39 U.vm ∧ U.heap = h0) (fun _ _ _ _ _ => True) (fun _ U o U' => ∃ v L, o = .returned v ∧ Q26_1 Z a1 x0 x1 de kde el ea kea em mr h0 n0 v U'.heap L ∧ FrameEnd U o U' L ({ frames := 0, cells := 0, slots := 0, locals := 0 } : Room).cells ({ frames := 0, cells := 0, slots := 0, locals := 0 } : Room).slots) := by
 refine MetFree.of_bodySF pn26 hisR ?_
 intro p e s m args below meth c s₁ Bd hml0 hP hK
 obtain ⟨rfl, hZ, hh⟩ := hP
 have hx := Bd.exec
 have hby := Bd.bytes
 have hml : c.maxLocals = 2 := hml0
 have hown : s.vm.findClass "java/util/ImmutableCollections$List12" = some m.cls := findClass_of_methodNamed Bd.named
 have hnm := (name_of_methodNamed Bd.named Bd.method).1
 have X0 : Stand p l e ({ frames := 0, cells := 0, slots := 0, locals := 0 } : Room) s m #[(.ref a1), (.int (1 : Int32))] below meth c s₁ [] 0 0 := Stand.of_body Bd
 have e0 : s₁.heap = h0 := by rw [← hh, Bd.state]; rfl
 have N0 := Fr.nil n0
 have p0 : Go p.tables e below (s₁.setTop (entryFrame m #[(.ref a1), (.int (1 : Int32))] 2)) (s₁.setTop (mkF m 0 #[.val (.ref a1), .val (.int (1 : Int32))] [])) := fun t_ k_ => castTop (ef_rm26_1 m a1 x0 x1 de kde el ea kea em mr) k_
 have p101 : Go p.tables e below _ (s₁.setTop (mkF m 15 #[.val (.ref a1), .val (.int (1 : Int32))] [(.ref a1)])) := fun t_ k_ => p0 t_ (by
  refine XS.iloadN X0.here hx rfl (hb hby d26_0) rfl ?_
  refine XS.ifYes X0.here hx rfl (pc0 := 1) (pc' := 9) rfl (hb hby d26_1) rfl ((if0 _ _).trans (feq (by decide : ¬ ((1 : Int32) = (0 : Int32)))).2) (by decide) (by decide) ?_
  refine XS.iloadN X0.here hx rfl (hb hby d26_9) rfl ?_
  refine XS.iconst X0.here hx rfl (hb hby d26_10) ?_
  refine XS.icmpNo X0.here hx rfl (hb hby d26_11) rfl (teq (by decide : ((1 : Int32) = (1 : Int32)))).2 ?_
  refine XS.aloadN X0.here hx rfl (hb hby d26_14) rfl rfl ?_
  exact k_)
 obtain ⟨T102, X102, e102, st102⟩ := getF X0 hx hZ hown (host := "") (Or.inl (own_w hw 182 rfl)) Via.refl e0 F2 (g := (mkF m 15 #[.val (.ref a1), .val (.int (1 : Int32))] [(.ref a1)])) rfl rfl (hb hby d26_15)
 obtain ⟨T103, X103, e103, st103⟩ := getS2 X102 hx hZ hown (Or.inr (own_w hw 201 rfl)) Via.refl e102 (G.2.2.2.2.2.2.2.1.ext O1.2) (g := (mkF m 18 #[.val (.ref a1), .val (.int (1 : Int32))] [(.ref x1)])) rfl (hb hby d26_18)
 have p104 : Go p.tables e below _ (T103.setTop (mkF m 25 #[.val (.ref a1), .val (.int (1 : Int32))] [(.ref a1)])) := fun t_ k_ => (gc (gc p101 st102) st103) t_ (by
  refine Jvm.RoadKit.acmp (g := (mkF m 21 #[.val (.ref a1), .val (.int (1 : Int32))] [(.ref em), (.ref x1)])) X103 hx rfl rfl rfl (pc0 := 21) (pc' := 24) (same := false) rfl (hb hby d26_21) rfl (decide_eq_false fun q => (Ne.symm (O1.ne G.2.2.2.2.2.2.2.2.1 gx)) (Value.ref.inj q)) (by decide) (by decide) ?_
  refine XS.aloadN X103.here hx rfl (hb hby d26_24) rfl rfl ?_
  exact k_)
 obtain ⟨T105, X105, e105, st105⟩ := getF X103 hx hZ hown (host := "") (Or.inl (own_w hw 182 rfl)) Via.refl e103 F2 (g := (mkF m 25 #[.val (.ref a1), .val (.int (1 : Int32))] [(.ref a1)])) rfl rfl (hb hby d26_25)
 obtain ⟨fs, hr, hrun, hended, hW, hsame⟩ := X105.leave (v := some (.ref x1)) (fun h => by rw [Bd.returns] at h; cases h)
 refine ⟨_, _, (gc p104 st105) _ (retOut X105 hx (w := (.ref x1)) (i := .areturn) Bd.returns rfl (Or.inr (Or.inr (Or.inr (Or.inr ⟨rfl, rfl, rfl⟩)))) (hb hby d26_28) hr), hrun, hended, _, _, rfl, ?_, ⟨_, rfl⟩, hW, hsame.mono (by decide) (by decide)⟩
 show Q26_1 Z a1 x0 x1 de kde el ea kea em mr h0 n0 _ T105.heap _
 rw [e105]
 exact ⟨rfl, N0, rfl⟩
theorem d27_0 : decode prog_43_method_3_code 0 = .ok (.aload_n 0, 1) := by decide +kernel
theorem d27_1 : decode prog_43_method_3_code 1 = .ok (.getfield 22, 3) := by decide +kernel
theorem d27_4 : decode prog_43_method_3_code 4 = .ok (.ireturn, 1) := by decide +kernel
theorem pn27 : plainFor (⟨"com/example/arcward/arcward/model/Variable", "index", "()I"⟩ : MethodName) = true := plainFor_of_name (by first | (simp [plainName, overriddenIn]; done) | decide +kernel)
theorem ef_rm27 (m : MethodId) (a1 : Addr) (ix : Int32) : entryFrame m #[(.ref a1)] 1 = mkF m 0 #[.val (.ref a1)] [] := by first | (simp [entryFrame, mkF, argsToLocals, Value.category]; done) | rfl
def Q27 (Z : State) (a1 : Addr) (ix : Int32) (h0 : Heap) (n0 : Nat) (v : Option Value) (h : Heap) (L : List Loc) : Prop := v = some (.int ix) ∧ Fr n0 L ∧ (h = h0)
set_option maxRecDepth 65536 in
set_option maxHeartbeats 40000000 in
theorem rm27 (l : Launch) (Z : State) (a0 : Array Value) (hw : ∀ d ∈ tables_1, d.before a0 Z = true) (ws : List Jvm.Cond) (a1 : Addr) (ix : Int32) (h0 : Heap) (n0 : Nat) (Z0 : n0 ≤ h0.size) (F1 : Fld Z h0 a1 "com/example/arcward/arcward/model/Variable" "index" "I" (.int ix)) :
  MetFree l (⟨"com/example/arcward/arcward/model/Variable", "index", "()I"⟩ : MethodName) (head1 (Jvm.Cond.code (⟨"com/example/arcward/arcward/model/Variable", "index", "()I"⟩ : MethodName) prog_43_method_3_code 1 (some .int) :: ws) ({ frames := 0, cells := 0, slots := 0, locals := 0 } : Room)) (fun a U => a = #[(.ref a1)] ∧ Z.Warmed39 U.vm ∧ U.heap = h0) (fun _ _ _ _ _ => True) (fun _ U o U' => ∃ v L, o = .returned v ∧ Q27 Z a1 ix h0 n0 v U'.heap L ∧ FrameEnd U o U' L ({ frames := 0, cells := 0, slots := 0, locals := 0 } : Room).cells ({ frames := 0, cells := 0, slots := 0, locals := 0 } : Room).slots) := by
 refine MetFree.of_bodySF pn27 hisR ?_
 intro p e s m args below meth c s₁ Bd hml0 hP hK
 obtain ⟨rfl, hZ, hh⟩ := hP
 have hx := Bd.exec
 have hby := Bd.bytes
 have hml : c.maxLocals = 1 := hml0
 have hown : s.vm.findClass "com/example/arcward/arcward/model/Variable" = some m.cls := findClass_of_methodNamed Bd.named
 have hnm := (name_of_methodNamed Bd.named Bd.method).1
 have X0 : Stand p l e ({ frames := 0, cells := 0, slots := 0, locals := 0 } : Room) s m #[(.ref a1)] below meth c s₁ [] 0 0 := Stand.of_body Bd
 have e0 : s₁.heap = h0 := by rw [← hh, Bd.state]; rfl
 have N0 := Fr.nil n0
 have p0 : Go p.tables e below (s₁.setTop (entryFrame m #[(.ref a1)] 1)) (s₁.setTop (mkF m 0 #[.val (.ref a1)] [])) := fun t_ k_ => castTop (ef_rm27 m a1 ix) k_
 have p101 : Go p.tables e below _ (s₁.setTop (mkF m 1 #[.val (.ref a1)] [(.ref a1)])) := fun t_ k_ => p0 t_ (by
  refine XS.aloadN X0.here hx rfl (hb hby d27_0) rfl rfl ?_
  exact k_)
 obtain ⟨T102, X102, e102, st102⟩ := getF X0 hx hZ hown (host := "") (Or.inl (own_w hw 44 rfl)) Via.refl e0 F1 (g := (mkF m 1 #[.val (.ref a1)] [(.ref a1)])) rfl rfl (hb hby d27_1)
 obtain ⟨fs, hr, hrun, hended, hW, hsame⟩ := X102.leave (v := some (.int ix)) (fun h => by rw [Bd.returns] at h; cases h)
 refine ⟨_, _, (gc p101 st102) _ (retI X102 hx Bd.returns (hb hby d27_4) hr), hrun, hended, _, _, rfl, ?_, ⟨_, rfl⟩, hW, hsame.mono (by decide) (by decide)⟩
 show Q27 Z a1 ix h0 n0 _ T102.heap _
 rw [e102]
 exact ⟨rfl, N0, rfl⟩
theorem d29_0 : decode jdk_45_method_3_code 0 = .ok (.aload_n 0, 1) := by decide +kernel
theorem d29_1 : decode jdk_45_method_3_code 1 = .ok (.getfield 7, 3) := by decide +kernel
theorem d29_4 : decode jdk_45_method_3_code 4 = .ok (.arraylength, 1) := by decide +kernel
theorem d29_5 : decode jdk_45_method_3_code 5 = .ok (.ireturn, 1) := by decide +kernel
theorem pn29 : plainFor (⟨"java/util/ImmutableCollections$ListN", "size", "()I"⟩ : MethodName) = true := plainFor_of_name (by first | (simp [plainName, overriddenIn]; done) | decide +kernel)
theorem ef_rm29 (m : MethodId) (de : Addr) (kde : ClassId) (el : Addr) (ea : Addr) (kea : ClassId) (em : Addr) (mr : Addr) : entryFrame m #[(.ref el)] 1 = mkF m 0 #[.val (.ref el)] [] := by first | (simp [entryFrame, mkF, argsToLocals, Value.category]; done) | rfl
def Q29 (Z : State) (de : Addr) (kde : ClassId) (el : Addr) (ea : Addr) (kea : ClassId) (em : Addr) (mr : Addr) (h0 : Heap) (n0 : Nat) (v : Option Value) (h : Heap) (L : List Loc) : Prop := v = some (.int (0 : Int32)) ∧ Fr n0 L ∧ (h = h0)
set_option maxRecDepth 65536 in
set_option maxHeartbeats 40000000 in
theorem rm29 (l : Launch) (Z : State) (a0 : Array Value) (hw : ∀ d ∈ tables_1, d.before a0 Z = true) (ws : List Jvm.Cond) (de : Addr) (kde : ClassId) (el : Addr) (ea : Addr) (kea : ClassId) (em : Addr) (mr : Addr) (h0 : Heap) (n0 : Nat) (Z0 : n0 ≤ h0.size) (O1 : Old Z n0 h0) (G : own_H Z de kde el ea kea em mr) :
  MetFree l (⟨"java/util/ImmutableCollections$ListN", "size", "()I"⟩ : MethodName) (head1 (Jvm.Cond.code (⟨"java/util/ImmutableCollections$ListN", "size", "()I"⟩ : MethodName) jdk_45_method_3_code 1 (some .int) :: ws) ({ frames := 0, cells := 0, slots := 0, locals := 0 } : Room)) (fun a U => a = #[(.ref el)] ∧ Z.Warmed39 U.vm ∧ U.heap = h0) (fun _ _ _ _ _ => True) (fun _ U o U' => ∃ v L, o = .returned v ∧ Q29 Z de kde el ea kea em mr h0 n0 v U'.heap L ∧ FrameEnd U o U' L ({ frames := 0, cells := 0, slots := 0, locals := 0 } : Room).cells ({ frames := 0, cells := 0, slots := 0, locals := 0 } : Room).slots) := by
 refine MetFree.of_bodySF pn29 hisR ?_
 intro p e s m args below meth c s₁ Bd hml0 hP hK
 obtain ⟨rfl, hZ, hh⟩ := hP
 have hx := Bd.exec
 have hby := Bd.bytes
 have hml : c.maxLocals = 1 := hml0
 have hown : s.vm.findClass "java/util/ImmutableCollections$ListN" = some m.cls := findClass_of_methodNamed Bd.named
 have hnm := (name_of_methodNamed Bd.named Bd.method).1
 have X0 : Stand p l e ({ frames := 0, cells := 0, slots := 0, locals := 0 } : Room) s m #[(.ref el)] below meth c s₁ [] 0 0 := Stand.of_body Bd
 have e0 : s₁.heap = h0 := by rw [← hh, Bd.state]; rfl
 have N0 := Fr.nil n0
 have p0 : Go p.tables e below (s₁.setTop (entryFrame m #[(.ref el)] 1)) (s₁.setTop (mkF m 0 #[.val (.ref el)] [])) := fun t_ k_ => castTop (ef_rm29 m de kde el ea kea em mr) k_
 have p101 : Go p.tables e below _ (s₁.setTop (mkF m 1 #[.val (.ref el)] [(.ref el)])) := fun t_ k_ => p0 t_ (by
  refine XS.aloadN X0.here hx rfl (hb hby d29_0) rfl rfl ?_
  exact k_)
 obtain ⟨T102, X102, e102, st102⟩ := getF X0 hx hZ hown (host := "") (Or.inl (own_w hw 236 rfl)) Via.refl e0 (G.2.2.2.2.2.1.ext O1.2) (g := (mkF m 1 #[.val (.ref el)] [(.ref el)])) rfl rfl (hb hby d29_1)
 obtain ⟨cl103, Ar103, -, S103, Ng103, -, -⟩ := id (G.2.2.2.2.2.2.1.ext O1.2)
 have p104 : Go p.tables e below _ (T102.setTop (mkF m 5 #[.val (.ref el)] [(.int (0 : Int32))])) := fun t_ k_ => (gc p101 st102) t_ (by
  refine X102.arraylength hx (by rw [e102]; exact Ar103.1) (State.isArrayOf_alike hZ.alike Ar103.2.1) (g := (mkF m 4 #[.val (.ref el)] [(.ref ea)])) rfl rfl (hb hby d29_4) _ ?_
  rw [len_of S103 Ng103]
  show Steps p.tables e below (T102.setTop (mkF m 5 #[.val (.ref el)] [(.int (0 : Int32))])) _
  exact k_)
 obtain ⟨fs, hr, hrun, hended, hW, hsame⟩ := X102.leave (v := some (.int (0 : Int32))) (fun h => by rw [Bd.returns] at h; cases h)
 refine ⟨_, _, p104 _ (retI X102 hx Bd.returns (hb hby d29_5) hr), hrun, hended, _, _, rfl, ?_, ⟨_, rfl⟩, hW, hsame.mono (by decide) (by decide)⟩
 show Q29 Z de kde el ea kea em mr h0 n0 _ T102.heap _
 rw [e102]
 exact ⟨rfl, N0, rfl⟩
theorem d30_0 : decode jdk_53_method_1_code 0 = .ok (.aload_n 0, 1) := by decide +kernel
theorem d30_1 : decode jdk_53_method_1_code 1 = .ok (.invokespecial 1, 3) := by decide +kernel
theorem d30_4 : decode jdk_53_method_1_code 4 = .ok (.aload_n 0, 1) := by decide +kernel
theorem d30_5 : decode jdk_53_method_1_code 5 = .ok (.aload_n 1, 1) := by decide +kernel
theorem d30_6 : decode jdk_53_method_1_code 6 = .ok (.putfield 7, 3) := by decide +kernel
theorem d30_9 : decode jdk_53_method_1_code 9 = .ok (.aload_n 0, 1) := by decide +kernel
theorem d30_10 : decode jdk_53_method_1_code 10 = .ok (.iload_n 2, 1) := by decide +kernel
theorem d30_11 : decode jdk_53_method_1_code 11 = .ok (.putfield 13, 3) := by decide +kernel
theorem d30_14 : decode jdk_53_method_1_code 14 = .ok (.aload_n 0, 1) := by decide +kernel
theorem d30_15 : decode jdk_53_method_1_code 15 = .ok (.iconst 0, 1) := by decide +kernel
theorem d30_16 : decode jdk_53_method_1_code 16 = .ok (.putfield 17, 3) := by decide +kernel
theorem d30_19 : decode jdk_53_method_1_code 19 = .ok (.aload_n 0, 1) := by decide +kernel
theorem d30_20 : decode jdk_53_method_1_code 20 = .ok (.iconst 0, 1) := by decide +kernel
theorem d30_21 : decode jdk_53_method_1_code 21 = .ok (.putfield 20, 3) := by decide +kernel
theorem d30_24 : decode jdk_53_method_1_code 24 = .ok (.return_, 1) := by decide +kernel
theorem pn30 : plainFor (⟨"java/util/ImmutableCollections$ListItr", "<init>", "(Ljava/util/List;I)V"⟩ : MethodName) = true := plainFor_of_name (by first | (simp [plainName, overriddenIn]; done) | decide +kernel)
theorem ef_rm30 (m : MethodId) (a1 : Addr) (a2 : Addr) : entryFrame m #[(.ref a1), (.ref a2), (.int (0 : Int32))] 3 = mkF m 0 #[.val (.ref a1), .val (.ref a2), .val (.int (0 : Int32))] [] := by first | (simp [entryFrame, mkF, argsToLocals, Value.category]; done) | rfl
def Q30 (Z : State) (a1 : Addr) (a2 : Addr) (h0 : Heap) (n0 : Nat) (v : Option Value) (h : Heap) (L : List Loc) : Prop := v = none ∧ Fr n0 L ∧ (Keep h0 h [a1]) ∧ (Exa Z h a1 "java/util/ImmutableCollections$ListItr") ∧ (Fld Z h a1 "java/util/ImmutableCollections$ListItr" "list" "Ljava/util/List;" (.ref a2)) ∧ (Fld Z h a1 "java/util/ImmutableCollections$ListItr" "size" "I" (.int (0 : Int32))) ∧ (Fld Z h a1 "java/util/ImmutableCollections$ListItr" "cursor" "I" (.int (0 : Int32))) ∧ (Fld Z h a1 "java/util/ImmutableCollections$ListItr" "isListIterator" "Z" (.int (0 : Int32)))
set_option maxRecDepth 65536 in
set_option maxHeartbeats 40000000 in
theorem rm30 (l : Launch) (Z : State) (a0 : Array Value) (hw : ∀ d ∈ tables_1, d.before a0 Z = true) (ws : List Jvm.Cond) (a1 : Addr) (a2 : Addr) (h0 : Heap) (n0 : Nat) (Z0 : n0 ≤ h0.size) (F0 : Exa Z h0 a1 "java/util/ImmutableCollections$ListItr") (F1 : Fld Z h0 a1 "java/util/ImmutableCollections$ListItr" "list" "Ljava/util/List;" .null) (F2 : Fld Z h0 a1 "java/util/ImmutableCollections$ListItr" "size" "I" (.int (0 : Int32))) (F3 : Fld Z h0 a1 "java/util/ImmutableCollections$ListItr" "cursor" "I" (.int (0 : Int32))) (F4 : Fld Z h0 a1 "java/util/ImmutableCollections$ListItr" "isListIterator" "Z" (.int (0 : Int32))) (g1 : n0 ≤ a1) :
  MetFree l (⟨"java/util/ImmutableCollections$ListItr", "<init>", "(Ljava/util/List;I)V"⟩ : MethodName) (head1 (Jvm.Cond.code (⟨"java/util/ImmutableCollections$ListItr", "<init>", "(Ljava/util/List;I)V"⟩ : MethodName) jdk_53_method_1_code 3 none :: ws) ({ frames := 1, cells := 0, slots := 0, locals := 12 } : Room)) (fun a U => a = #[(.ref a1), (.ref a2), (.int (0 : Int32))] ∧ Z.Warmed39 U.vm ∧ U.heap = h0) (fun _ _ _ _ _ => True) (fun _ U o U' => ∃ v L, o = .returned v ∧ Q30 Z a1 a2 h0 n0 v U'.heap L ∧ FrameEnd U o U' L ({ frames := 1, cells := 0, slots := 0, locals := 12 } : Room).cells ({ frames := 1, cells := 0, slots := 0, locals := 12 } : Room).slots) := by
 refine MetFree.of_bodySF pn30 hisR ?_
 intro p e s m args below meth c s₁ Bd hml0 hP hK
 obtain ⟨rfl, hZ, hh⟩ := hP
 have hx := Bd.exec
 have hby := Bd.bytes
 have hml : c.maxLocals = 3 := hml0
 have hown : s.vm.findClass "java/util/ImmutableCollections$ListItr" = some m.cls := findClass_of_methodNamed Bd.named
 have hnm := (name_of_methodNamed Bd.named Bd.method).1
 have X0 : Stand p l e ({ frames := 1, cells := 0, slots := 0, locals := 12 } : Room) s m #[(.ref a1), (.ref a2), (.int (0 : Int32))] below meth c s₁ [] 0 0 := Stand.of_body Bd
 have e0 : s₁.heap = h0 := by rw [← hh, Bd.state]; rfl
 have N0 := Fr.nil n0
 have p0 : Go p.tables e below (s₁.setTop (entryFrame m #[(.ref a1), (.ref a2), (.int (0 : Int32))] 3)) (s₁.setTop (mkF m 0 #[.val (.ref a1), .val (.ref a2), .val (.int (0 : Int32))] [])) := fun t_ k_ => castTop (ef_rm30 m a1 a2) k_
 have p101 : Go p.tables e below _ (s₁.setTop (mkF m 1 #[.val (.ref a1), .val (.ref a2), .val (.int (0 : Int32))] [(.ref a1)])) := fun t_ k_ => p0 t_ (by
  refine XS.aloadN X0.here hx rfl (hb hby d30_0) rfl rfl ?_
  exact k_)
 obtain ⟨T102, X102, e102, st102⟩ := initO X0 hx hZ hown (own_w hw 242 rfl) (own_w hw 19 rfl) (own_w hw 20 rfl) e0 (g := (mkF m 1 #[.val (.ref a1), .val (.ref a2), .val (.int (0 : Int32))] [(.ref a1)])) rfl (by rw [hml]; rfl) rfl (hb hby d30_1) (by decide) (W := 0) (by show 2 * 0 + _ ≤ _; exact Nat.le_of_eq rfl) (by decide)
 have p103 : Go p.tables e below _ (T102.setTop (mkF m 6 #[.val (.ref a1), .val (.ref a2), .val (.int (0 : Int32))] [(.ref a2), (.ref a1)])) := fun t_ k_ => (gc p101 st102) t_ (by
  refine XS.aloadN X102.here hx rfl (hb hby d30_4) rfl rfl ?_
  refine XS.aloadN X102.here hx rfl (hb hby d30_5) rfl rfl ?_
  exact k_)
 obtain ⟨T104, h104, X104, e104, W104, st104⟩ := putF X102 hx hZ hown (host := "") (Or.inl (own_w hw 243 rfl)) Via.refl e102 F1 F0 (Or.inr ⟨(own_w hw 244 rfl), rfl, hnm⟩) (own_w hw 227 rfl) (ty := (.object "java/util/List")) (by decide) rfl rfl (g := (mkF m 6 #[.val (.ref a1), .val (.ref a2), .val (.int (0 : Int32))] [(.ref a2), (.ref a1)])) rfl rfl (hb hby d30_6)
 have K105 : Keep h0 h104 [a1] := (Keep.refl h0 [a1]).wr W104 (Or.inl (List.mem_of_getElem? (i := 0) rfl))
 have N104 := Fr.snoc X104 N0 g1
 have F104 : Fld Z h104 a1 "java/util/ImmutableCollections$ListItr" "list" "Ljava/util/List;" (.ref a2) := F1.same W104
 have p106 : Go p.tables e below _ (T104.setTop (mkF m 11 #[.val (.ref a1), .val (.ref a2), .val (.int (0 : Int32))] [(.int (0 : Int32)), (.ref a1)])) := fun t_ k_ => (gc p103 st104) t_ (by
  refine XS.aloadN X104.here hx rfl (hb hby d30_9) rfl rfl ?_
  refine XS.iloadN X104.here hx rfl (hb hby d30_10) rfl ?_
  exact k_)
 have f107 := (F2.other W104 (Or.inr (slot_ne (Or.inr (own_w hw 246 rfl)) (Or.inr (own_w hw 244 rfl)) (by decide) (t := .int) (t' := (.object "java/util/List")) (by decide) (by decide))))
 have f108 := (F0.wr W104)
 obtain ⟨T109, h109, X109, e109, W109, st109⟩ := putF X104 hx hZ hown (host := "") (Or.inl (own_w hw 245 rfl)) Via.refl e104 f107 f108 (Or.inr ⟨(own_w hw 246 rfl), rfl, hnm⟩) (own_w hw 227 rfl) (ty := .int) (by decide) rfl rfl (g := (mkF m 11 #[.val (.ref a1), .val (.ref a2), .val (.int (0 : Int32))] [(.int (0 : Int32)), (.ref a1)])) rfl rfl (hb hby d30_11)
 have K110 : Keep h0 h109 [a1] := K105.wr W109 (Or.inl (List.mem_of_getElem? (i := 0) rfl))
 have N109 := Fr.snoc X109 N104 g1
 have F109 : Fld Z h109 a1 "java/util/ImmutableCollections$ListItr" "size" "I" (.int (0 : Int32)) := f107.same W109
 have p111 : Go p.tables e below _ (T109.setTop (mkF m 16 #[.val (.ref a1), .val (.ref a2), .val (.int (0 : Int32))] [(.int (0 : Int32)), (.ref a1)])) := fun t_ k_ => (gc p106 st109) t_ (by
  refine XS.aloadN X109.here hx rfl (hb hby d30_14) rfl rfl ?_
  refine XS.iconst X109.here hx rfl (hb hby d30_15) ?_
  exact k_)
 have f112 := ((F3.other W104 (Or.inr (slot_ne (Or.inl (own_w hw 248 rfl)) (Or.inr (own_w hw 244 rfl)) (by decide) (t := .int) (t' := (.object "java/util/List")) (by decide) (by decide)))).other W109 (Or.inr (slot_ne (Or.inl (own_w hw 248 rfl)) (Or.inr (own_w hw 246 rfl)) (by decide) (t := .int) (t' := .int) (by decide) (by decide))))
 have f113 := (f108.wr W109)
 obtain ⟨T114, h114, X114, e114, W114, st114⟩ := putF X109 hx hZ hown (host := "") (Or.inl (own_w hw 247 rfl)) Via.refl e109 f112 f113 (Or.inl (own_w hw 248 rfl)) (own_w hw 227 rfl) (ty := .int) (by decide) rfl rfl (g := (mkF m 16 #[.val (.ref a1), .val (.ref a2), .val (.int (0 : Int32))] [(.int (0 : Int32)), (.ref a1)])) rfl rfl (hb hby d30_16)
 have K115 : Keep h0 h114 [a1] := K110.wr W114 (Or.inl (List.mem_of_getElem? (i := 0) rfl))
 have N114 := Fr.snoc X114 N109 g1
 have F114 : Fld Z h114 a1 "java/util/ImmutableCollections$ListItr" "cursor" "I" (.int (0 : Int32)) := f112.same W114
 have p116 : Go p.tables e below _ (T114.setTop (mkF m 21 #[.val (.ref a1), .val (.ref a2), .val (.int (0 : Int32))] [(.int (0 : Int32)), (.ref a1)])) := fun t_ k_ => (gc p111 st114) t_ (by
  refine XS.aloadN X114.here hx rfl (hb hby d30_19) rfl rfl ?_
  refine XS.iconst X114.here hx rfl (hb hby d30_20) ?_
  exact k_)
 have f117 := (((F4.other W104 (Or.inr (slot_ne (Or.inr (own_w hw 250 rfl)) (Or.inr (own_w hw 244 rfl)) (by decide) (t := .boolean) (t' := (.object "java/util/List")) (by decide) (by decide)))).other W109 (Or.inr (slot_ne (Or.inr (own_w hw 250 rfl)) (Or.inr (own_w hw 246 rfl)) (by decide) (t := .boolean) (t' := .int) (by decide) (by decide)))).other W114 (Or.inr (slot_ne (Or.inr (own_w hw 250 rfl)) (Or.inl (own_w hw 248 rfl)) (by decide) (t := .boolean) (t' := .int) (by decide) (by decide))))
 have f118 := (f113.wr W114)
 obtain ⟨T119, h119, X119, e119, W119, st119⟩ := putFN X114 hx hZ hown (own_w hw 249 rfl) Via.refl e114 f117 f118 (Or.inr ⟨(own_w hw 250 rfl), rfl, hnm⟩) (own_w hw 227 rfl) (ty := .boolean) (v' := (.int (0 : Int32))) (by decide) rfl (by decide) (g := (mkF m 21 #[.val (.ref a1), .val (.ref a2), .val (.int (0 : Int32))] [(.int (0 : Int32)), (.ref a1)])) rfl rfl (hb hby d30_21)
 have K120 : Keep h0 h119 [a1] := K115.wr W119 (Or.inl (List.mem_of_getElem? (i := 0) rfl))
 have N119 := Fr.snoc X119 N114 g1
 have F119 : Fld Z h119 a1 "java/util/ImmutableCollections$ListItr" "isListIterator" "Z" (.int (0 : Int32)) := f117.same W119
 have f121 := (f118.wr W119)
 have f122 := (((F104.other W109 (Or.inr (slot_ne (Or.inr (own_w hw 244 rfl)) (Or.inr (own_w hw 246 rfl)) (by decide) (t := (.object "java/util/List")) (t' := .int) (by decide) (by decide)))).other W114 (Or.inr (slot_ne (Or.inr (own_w hw 244 rfl)) (Or.inl (own_w hw 248 rfl)) (by decide) (t := (.object "java/util/List")) (t' := .int) (by decide) (by decide)))).other W119 (Or.inr (slot_ne (Or.inr (own_w hw 244 rfl)) (Or.inr (own_w hw 250 rfl)) (by decide) (t := (.object "java/util/List")) (t' := .boolean) (by decide) (by decide))))
 have f123 := ((F109.other W114 (Or.inr (slot_ne (Or.inr (own_w hw 246 rfl)) (Or.inl (own_w hw 248 rfl)) (by decide) (t := .int) (t' := .int) (by decide) (by decide)))).other W119 (Or.inr (slot_ne (Or.inr (own_w hw 246 rfl)) (Or.inr (own_w hw 250 rfl)) (by decide) (t := .int) (t' := .boolean) (by decide) (by decide))))
 have f124 := (F114.other W119 (Or.inr (slot_ne (Or.inl (own_w hw 248 rfl)) (Or.inr (own_w hw 250 rfl)) (by decide) (t := .int) (t' := .boolean) (by decide) (by decide))))
 obtain ⟨fs, hr, hrun, hended, hW, hsame⟩ := X119.leave (v := none) (fun _ => rfl)
 refine ⟨_, _, (gc p116 st119) _ (X119.returnOut hx Bd.returns (hb hby d30_24) hr), hrun, hended, _, _, rfl, ?_, ⟨_, rfl⟩, hW, hsame.mono (by decide) (by decide)⟩
 show Q30 Z a1 a2 h0 n0 _ T119.heap _
 rw [e119]
 exact ⟨rfl, N119, K120, f121, f122, f123, f124, F119⟩
theorem d28_0 : decode jdk_46_method_10_code 0 = .ok (.new 61, 3) := by decide +kernel
theorem d28_3 : decode jdk_46_method_10_code 3 = .ok (.dup, 1) := by decide +kernel
theorem d28_4 : decode jdk_46_method_10_code 4 = .ok (.aload_n 0, 1) := by decide +kernel
theorem d28_5 : decode jdk_46_method_10_code 5 = .ok (.aload_n 0, 1) := by decide +kernel
theorem d28_6 : decode jdk_46_method_10_code 6 = .ok (.invokevirtual 13, 3) := by decide +kernel
theorem d28_9 : decode jdk_46_method_10_code 9 = .ok (.invokespecial 63, 3) := by decide +kernel
theorem d28_12 : decode jdk_46_method_10_code 12 = .ok (.areturn, 1) := by decide +kernel
theorem pd13 : parseMethodDescriptor "()I" = some ⟨[], some .int⟩ := by decide +kernel
theorem pd14 : parseMethodDescriptor "(Ljava/util/List;I)V" = some ⟨[(.object "java/util/List"), .int], none⟩ := by decide +kernel
theorem pn28 : plainFor (⟨"java/util/ImmutableCollections$AbstractImmutableList", "iterator", "()Ljava/util/Iterator;"⟩ : MethodName) = true := plainFor_of_name (by first | (simp [plainName, overriddenIn]; done) | decide +kernel)
theorem ef_rm28 (m : MethodId) (de : Addr) (kde : ClassId) (el : Addr) (ea : Addr) (kea : ClassId) (em : Addr) (mr : Addr) : entryFrame m #[(.ref el)] 1 = mkF m 0 #[.val (.ref el)] [] := by first | (simp [entryFrame, mkF, argsToLocals, Value.category]; done) | rfl
def Q28 (Z : State) (de : Addr) (kde : ClassId) (el : Addr) (ea : Addr) (kea : ClassId) (em : Addr) (mr : Addr) (h0 : Heap) (n0 : Nat) (v : Option Value) (h : Heap) (L : List Loc) : Prop := ∃ (b : Addr), v = some (.ref b) ∧ Fr n0 L ∧ (Keep h0 h []) ∧ (Exa Z h b "java/util/ImmutableCollections$ListItr") ∧ (Fld Z h b "java/util/ImmutableCollections$ListItr" "list" "Ljava/util/List;" (.ref el)) ∧ (Fld Z h b "java/util/ImmutableCollections$ListItr" "size" "I" (.int (0 : Int32))) ∧ (Fld Z h b "java/util/ImmutableCollections$ListItr" "cursor" "I" (.int (0 : Int32))) ∧ (Fld Z h b "java/util/ImmutableCollections$ListItr" "isListIterator" "Z" (.int (0 : Int32))) ∧ (n0 ≤ b) ∧ (h0.size ≤ b)
set_option maxRecDepth 65536 in
set_option maxHeartbeats 40000000 in
theorem rm28 (l : Launch) (Z : State) (a0 : Array Value) (hw : ∀ d ∈ tables_1, d.before a0 Z = true) (ws : List Jvm.Cond) (de : Addr) (kde : ClassId) (el : Addr) (ea : Addr) (kea : ClassId) (em : Addr) (mr : Addr) (h0 : Heap) (n0 : Nat) (Z0 : n0 ≤ h0.size) (O1 : Old Z n0 h0) (G : own_H Z de kde el ea kea em mr) :
  MetFree l (⟨"java/util/ImmutableCollections$AbstractImmutableList", "iterator", "()Ljava/util/Iterator;"⟩ : MethodName) (head1 (Jvm.Cond.code (⟨"java/util/ImmutableCollections$AbstractImmutableList", "iterator", "()Ljava/util/Iterator;"⟩ : MethodName) jdk_46_method_10_code 1 (some (.object "java/util/Iterator")) :: ws) ({ frames := 2, cells := 1, slots := 4, locals := 27 } : Room)) (fun a U => a = #[(.ref el)] ∧ Z.Warmed39 U.vm ∧ U.heap = h0) (fun _ _ _ _ _ => True) (fun _ U o U' => ∃ v L, o = .returned v ∧ Q28 Z de kde el ea kea em mr h0 n0 v U'.heap L ∧ FrameEnd U o U' L ({ frames := 2, cells := 1, slots := 4, locals := 27 } : Room).cells ({ frames := 2, cells := 1, slots := 4, locals := 27 } : Room).slots) := by
 refine MetFree.of_bodySF pn28 hisR ?_
 intro p e s m args below meth c s₁ Bd hml0 hP hK
 obtain ⟨rfl, hZ, hh⟩ := hP
 have hx := Bd.exec
 have hby := Bd.bytes
 have hml : c.maxLocals = 1 := hml0
 have hown : s.vm.findClass "java/util/ImmutableCollections$AbstractImmutableList" = some m.cls := findClass_of_methodNamed Bd.named
 have hnm := (name_of_methodNamed Bd.named Bd.method).1
 have X0 : Stand p l e ({ frames := 2, cells := 1, slots := 4, locals := 27 } : Room) s m #[(.ref el)] below meth c s₁ [] 0 0 := Stand.of_body Bd
 have e0 : s₁.heap = h0 := by rw [← hh, Bd.state]; rfl
 have N0 := Fr.nil n0
 have p0 : Go p.tables e below (s₁.setTop (entryFrame m #[(.ref el)] 1)) (s₁.setTop (mkF m 0 #[.val (.ref el)] [])) := fun t_ k_ => castTop (ef_rm28 m de kde el ea kea em mr) k_
 obtain ⟨T101, h101, X101, e101, E101, A101, D101, -, st101⟩ := newO X0 hx hZ hown (own_w hw 226 rfl) (own_w hw 227 rfl) (own_w hw 228 rfl) e0 (g := (mkF m 0 #[.val (.ref el)] [])) rfl (hb hby d28_0) (by decide) (by decide)
 obtain ⟨b101, g101⟩ : ∃ z, z = h0.size := ⟨_, rfl⟩
 rw [← g101] at A101 D101 st101
 have ge_b101 : n0 ≤ b101 := Nat.le_trans (Nat.le_trans Z0 (Keep.refl h0 []).1) (Nat.le_of_eq g101.symm)
 have sz_b101 : h0.size ≤ b101 := Nat.le_trans (Keep.refl h0 []).1 (Nat.le_of_eq g101.symm)
 have K102 : Keep h0 h101 [] := (Keep.refl h0 []).ext E101
 have F101_list : Fld Z h101 b101 "java/util/ImmutableCollections$ListItr" "list" "Ljava/util/List;" .null := D101 (Or.inr (own_w hw 244 rfl)) (ty := (.object "java/util/List")) (by decide)
 have F101_size : Fld Z h101 b101 "java/util/ImmutableCollections$ListItr" "size" "I" (.int (0 : Int32)) := D101 (Or.inr (own_w hw 246 rfl)) (ty := .int) (by decide)
 have F101_cursor : Fld Z h101 b101 "java/util/ImmutableCollections$ListItr" "cursor" "I" (.int (0 : Int32)) := D101 (Or.inl (own_w hw 248 rfl)) (ty := .int) (by decide)
 have F101_isListIterator : Fld Z h101 b101 "java/util/ImmutableCollections$ListItr" "isListIterator" "Z" (.int (0 : Int32)) := D101 (Or.inr (own_w hw 250 rfl)) (ty := .boolean) (by decide)
 have p103 : Go p.tables e below _ (T101.setTop (mkF m 6 #[.val (.ref el)] [(.ref el), (.ref el), (.ref b101), (.ref b101)])) := fun t_ k_ => (gc p0 st101) t_ (by
  refine XS.dup X101.here hx rfl (hb hby d28_3) rfl rfl ?_
  refine XS.aloadN X101.here hx rfl (hb hby d28_4) rfl rfl ?_
  refine XS.aloadN X101.here hx rfl (hb hby d28_5) rfl rfl ?_
  exact k_)
 have f104 := (O1.ext E101)
 obtain ⟨cq105, kq105, q105a, q105b, q105c⟩ := isOf hZ e101 (G.2.2.2.2.1.ext f104.2)
 obtain ⟨_, _, ⟨T105, L105, k105, n105⟩, -, X105, ⟨Lc105, hQ105, l105, y105, z105⟩, st105⟩ := X101.virtualBackUp hx (x := (⟨"java/util/ImmutableCollections$AbstractImmutableList", "size", "()I"⟩ : MethodName)) (y := (⟨"java/util/ImmutableCollections$ListN", "size", "()I"⟩ : MethodName)) hown (mvT hZ (own_w hw 229 rfl)) (mvT hZ (own_w hw 230 rfl)) (mvT hZ (own_w hw 231 rfl)) (by decide) (mvT hZ (own_w hw 232 rfl)) (mvT hZ (own_w hw 233 rfl)) (backOf (W := 3) (rm29 l Z a0 hw [] de kde el ea kea em mr h101 n0 (Nat.le_trans Z0 K102.1) f104 G) hZ (own_w hw 235 rfl) (own_w hw 234 rfl) (by decide) (by decide)) q105a q105c (g := (mkF m 6 #[.val (.ref el)] [(.ref el), (.ref el), (.ref b101), (.ref b101)])) rfl (by rw [hml]; rfl) (Steps.refl _) (argsL := []) (rest := [(.ref el), (.ref b101), (.ref b101)]) (lenOf pd13 rfl) rfl (by show 2 * 0 + _ ≤ _; exact Nat.le_of_eq rfl) (hb hby d28_6) (fun _ _ => ⟨rfl, e101, (by decide : 1 + 0 ≤ _), (by decide : 4 + 0 ≤ _)⟩)
 dsimp only [Pt.U, Pt.locs, Pt.cells, Pt.slots] at X105 l105 y105 z105 st105 hQ105
 subst l105 y105 z105
 obtain ⟨rfl, N105q, q105_hh⟩ := hQ105
 have N105 := Fr.app N0 N105q
 obtain ⟨_, _, ⟨T106, L106, k106, n106⟩, -, X106, ⟨Lc106, hQ106, l106, y106, z106⟩, st106⟩ := X105.specialBack hx (y := (⟨"java/util/ImmutableCollections$ListItr", "<init>", "(Ljava/util/List;I)V"⟩ : MethodName)) rfl hown (mvT hZ (own_w hw 238 rfl)) (mvT hZ (own_w hw 239 rfl)) (mvT hZ (own_w hw 241 rfl)) (by decide) (backOf (W := 1) (rm30 l Z a0 hw [] b101 el h101 n0 (Nat.le_trans Z0 K102.1) A101 F101_list F101_size F101_cursor F101_isListIterator ge_b101) hZ (own_w hw 241 rfl) (own_w hw 228 rfl) (by decide) (by decide)) (g := (mkF m 9 #[.val (.ref el)] [(.int (0 : Int32)), (.ref el), (.ref b101), (.ref b101)])) rfl (by rw [hml]; rfl) (Steps.refl _) (a := b101) (argsL := [(.ref el), (.int (0 : Int32))]) (rest := [(.ref b101)]) (lenOf pd14 rfl) rfl (by show 2 * 0 + _ ≤ _; exact Nat.le_of_eq rfl) (hb hby d28_9) (fun _ _ => ⟨rfl, q105_hh, (by decide : 1 + 0 ≤ _), (by decide : 4 + 0 ≤ _)⟩)
 dsimp only [Pt.U, Pt.locs, Pt.cells, Pt.slots] at X106 l106 y106 z106 st106 hQ106
 subst l106 y106 z106
 obtain ⟨rfl, N106q, q106_K, q106_F0, q106_F1, q106_F2, q106_F3, q106_F4⟩ := hQ106
 have N106 := Fr.app N105 N106q
 have K107 : Keep h0 T106.heap [] := K102.trans q106_K (allS (Or.inr sz_b101) all0)
 obtain ⟨fs, hr, hrun, hended, hW, hsame⟩ := X106.leave (v := some (.ref b101)) (fun h => by rw [Bd.returns] at h; cases h)
 refine ⟨_, _, (gcT (gcT p103 st105) st106) _ (retOut X106 hx (w := (.ref b101)) (i := .areturn) Bd.returns rfl (Or.inr (Or.inr (Or.inr (Or.inr ⟨rfl, rfl, rfl⟩)))) (hb hby d28_12) hr), hrun, hended, _, _, rfl, ?_, ⟨_, rfl⟩, hW, hsame.mono (by decide) (by decide)⟩
 show Q28 Z de kde el ea kea em mr h0 n0 _ T106.heap _
 exact ⟨b101, rfl, N106, K107, q106_F0, q106_F1, q106_F2, q106_F3, q106_F4, ge_b101, sz_b101⟩
theorem d31_0 : decode jdk_53_method_3_code 0 = .ok (.aload_n 0, 1) := by decide +kernel
theorem d31_1 : decode jdk_53_method_3_code 1 = .ok (.getfield 17, 3) := by decide +kernel
theorem d31_4 : decode jdk_53_method_3_code 4 = .ok (.aload_n 0, 1) := by decide +kernel
theorem d31_5 : decode jdk_53_method_3_code 5 = .ok (.getfield 13, 3) := by decide +kernel
theorem d31_8 : decode jdk_53_method_3_code 8 = .ok (.if_icmp .eq 7, 3) := by decide +kernel
theorem d31_15 : decode jdk_53_method_3_code 15 = .ok (.iconst 0, 1) := by decide +kernel
theorem d31_16 : decode jdk_53_method_3_code 16 = .ok (.ireturn, 1) := by decide +kernel
theorem pn31 : plainFor (⟨"java/util/ImmutableCollections$ListItr", "hasNext", "()Z"⟩ : MethodName) = true := plainFor_of_name (by first | (simp [plainName, overriddenIn]; done) | decide +kernel)
theorem ef_rm31 (m : MethodId) (a1 : Addr) : entryFrame m #[(.ref a1)] 1 = mkF m 0 #[.val (.ref a1)] [] := by first | (simp [entryFrame, mkF, argsToLocals, Value.category]; done) | rfl
def Q31 (Z : State) (a1 : Addr) (h0 : Heap) (n0 : Nat) (v : Option Value) (h : Heap) (L : List Loc) : Prop := v = some (.int (0 : Int32)) ∧ Fr n0 L ∧ (h = h0)
set_option maxRecDepth 65536 in
set_option maxHeartbeats 40000000 in
theorem rm31 (l : Launch) (Z : State) (a0 : Array Value) (hw : ∀ d ∈ tables_1, d.before a0 Z = true) (ws : List Jvm.Cond) (a1 : Addr) (h0 : Heap) (n0 : Nat) (Z0 : n0 ≤ h0.size) (Fs : Fld Z h0 a1 "java/util/ImmutableCollections$ListItr" "size" "I" (.int (0 : Int32))) (Fc : Fld Z h0 a1 "java/util/ImmutableCollections$ListItr" "cursor" "I" (.int (0 : Int32))) :
  MetFree l (⟨"java/util/ImmutableCollections$ListItr", "hasNext", "()Z"⟩ : MethodName) (head1 (Jvm.Cond.code (⟨"java/util/ImmutableCollections$ListItr", "hasNext", "()Z"⟩ : MethodName) jdk_53_method_3_code 1 (some .boolean) :: ws) ({ frames := 0, cells := 0, slots := 0, locals := 0 } : Room)) (fun a U => a = #[(.ref a1)] ∧ Z.Warmed39 U.vm ∧ U.heap = h0) (fun _ _ _ _ _ => True) (fun _ U o U' => ∃ v L, o = .returned v ∧ Q31 Z a1 h0 n0 v U'.heap L ∧ FrameEnd U o U' L ({ frames := 0, cells := 0, slots := 0, locals := 0 } : Room).cells ({ frames := 0, cells := 0, slots := 0, locals := 0 } : Room).slots) := by
 refine MetFree.of_bodySF pn31 hisR ?_
 intro p e s m args below meth c s₁ Bd hml0 hP hK
 obtain ⟨rfl, hZ, hh⟩ := hP
 have hx := Bd.exec
 have hby := Bd.bytes
 have hml : c.maxLocals = 1 := hml0
 have hown : s.vm.findClass "java/util/ImmutableCollections$ListItr" = some m.cls := findClass_of_methodNamed Bd.named
 have hnm := (name_of_methodNamed Bd.named Bd.method).1
 have X0 : Stand p l e ({ frames := 0, cells := 0, slots := 0, locals := 0 } : Room) s m #[(.ref a1)] below meth c s₁ [] 0 0 := Stand.of_body Bd
 have e0 : s₁.heap = h0 := by rw [← hh, Bd.state]; rfl
 have N0 := Fr.nil n0
 have p0 : Go p.tables e below (s₁.setTop (entryFrame m #[(.ref a1)] 1)) (s₁.setTop (mkF m 0 #[.val (.ref a1)] [])) := fun t_ k_ => castTop (ef_rm31 m a1) k_
 have p101 : Go p.tables e below _ (s₁.setTop (mkF m 1 #[.val (.ref a1)] [(.ref a1)])) := fun t_ k_ => p0 t_ (by
  refine XS.aloadN X0.here hx rfl (hb hby d31_0) rfl rfl ?_
  exact k_)
 obtain ⟨T102, X102, e102, st102⟩ := getF X0 hx hZ hown (host := "") (Or.inl (own_w hw 247 rfl)) Via.refl e0 Fc (g := (mkF m 1 #[.val (.ref a1)] [(.ref a1)])) rfl rfl (hb hby d31_1)
 have p103 : Go p.tables e below _ (T102.setTop (mkF m 5 #[.val (.ref a1)] [(.ref a1), (.int (0 : Int32))])) := fun t_ k_ => (gc p101 st102) t_ (by
  refine XS.aloadN X102.here hx rfl (hb hby d31_4) rfl rfl ?_
  exact k_)
 obtain ⟨T104, X104, e104, st104⟩ := getF X102 hx hZ hown (host := "") (Or.inl (own_w hw 245 rfl)) Via.refl e102 Fs (g := (mkF m 5 #[.val (.ref a1)] [(.ref a1), (.int (0 : Int32))])) rfl rfl (hb hby d31_5)
 have p105 : Go p.tables e below _ (T104.setTop (mkF m 16 #[.val (.ref a1)] [(.int (0 : Int32))])) := fun t_ k_ => (gc p103 st104) t_ (by
  refine XS.icmpYes X104.here hx rfl (pc0 := 8) (pc' := 15) rfl (hb hby d31_8) rfl (teq (by decide : ((0 : Int32) = (0 : Int32)))).1 (by decide) (by decide) ?_
  refine XS.iconst X104.here hx rfl (hb hby d31_15) ?_
  exact k_)
 obtain ⟨fs, hr, hrun, hended, hW, hsame⟩ := X104.leave (v := some (.int (0 : Int32))) (fun h => by rw [Bd.returns] at h; cases h)
 refine ⟨_, _, p105 _ (retN X104 hx (t := .boolean) Bd.returns (by simp) (hb hby d31_16) hr), hrun, hended, _, _, rfl, ?_, ⟨_, rfl⟩, hW, hsame.mono (by decide) (by decide)⟩
 show Q31 Z a1 h0 n0 _ T104.heap _
 rw [e104]
 exact ⟨rfl, N0, rfl⟩
theorem d5_0 : decode prog_43_method_1_code 0 = .ok (.aload_n 0, 1) := by decide +kernel
theorem d5_1 : decode prog_43_method_1_code 1 = .ok (.invokespecial 1, 3) := by decide +kernel
theorem d5_4 : decode prog_43_method_1_code 4 = .ok (.iconst 1, 1) := by decide +kernel
theorem d5_5 : decode prog_43_method_1_code 5 = .ok (.istore 4, 2) := by decide +kernel
theorem d5_7 : decode prog_43_method_1_code 7 = .ok (.iload 4, 2) := by decide +kernel
theorem d5_9 : decode prog_43_method_1_code 9 = .ok (.aload_n 3, 1) := by decide +kernel
theorem d5_10 : decode prog_43_method_1_code 10 = .ok (.arraylength, 1) := by decide +kernel
theorem d5_11 : decode prog_43_method_1_code 11 = .ok (.if_icmp .ge 36, 3) := by decide +kernel
theorem d5_14 : decode prog_43_method_1_code 14 = .ok (.aload_n 3, 1) := by decide +kernel
theorem d5_15 : decode prog_43_method_1_code 15 = .ok (.iload 4, 2) := by decide +kernel
theorem d5_17 : decode prog_43_method_1_code 17 = .ok (.iconst 1, 1) := by decide +kernel
theorem d5_18 : decode prog_43_method_1_code 18 = .ok (.isub, 1) := by decide +kernel
theorem d5_19 : decode prog_43_method_1_code 19 = .ok (.iaload, 1) := by decide +kernel
theorem d5_20 : decode prog_43_method_1_code 20 = .ok (.aload_n 3, 1) := by decide +kernel
theorem d5_21 : decode prog_43_method_1_code 21 = .ok (.iload 4, 2) := by decide +kernel
theorem d5_23 : decode prog_43_method_1_code 23 = .ok (.iaload, 1) := by decide +kernel
theorem d5_24 : decode prog_43_method_1_code 24 = .ok (.if_icmp .lt 17, 3) := by decide +kernel
theorem d5_41 : decode prog_43_method_1_code 41 = .ok (.iinc 4 1, 3) := by decide +kernel
theorem d5_44 : decode prog_43_method_1_code 44 = .ok (.goto (-37), 3) := by decide +kernel
theorem d5_47 : decode prog_43_method_1_code 47 = .ok (.aload_n 0, 1) := by decide +kernel
theorem d5_48 : decode prog_43_method_1_code 48 = .ok (.aload_n 1, 1) := by decide +kernel
theorem d5_49 : decode prog_43_method_1_code 49 = .ok (.putfield 16, 3) := by decide +kernel
theorem d5_52 : decode prog_43_method_1_code 52 = .ok (.aload_n 0, 1) := by decide +kernel
theorem d5_53 : decode prog_43_method_1_code 53 = .ok (.iload_n 2, 1) := by decide +kernel
theorem d5_54 : decode prog_43_method_1_code 54 = .ok (.putfield 22, 3) := by decide +kernel
theorem d5_57 : decode prog_43_method_1_code 57 = .ok (.aload_n 0, 1) := by decide +kernel
theorem d5_58 : decode prog_43_method_1_code 58 = .ok (.aload_n 3, 1) := by decide +kernel
theorem d5_59 : decode prog_43_method_1_code 59 = .ok (.invokevirtual 26, 3) := by decide +kernel
theorem d5_62 : decode prog_43_method_1_code 62 = .ok (.checkcast 27, 3) := by decide +kernel
theorem d5_65 : decode prog_43_method_1_code 65 = .ok (.putfield 32, 3) := by decide +kernel
theorem d5_68 : decode prog_43_method_1_code 68 = .ok (.return_, 1) := by decide +kernel
theorem pn5 : plainFor (⟨"com/example/arcward/arcward/model/Variable", "<init>", "(Ljava/lang/String;I[I)V"⟩ : MethodName) = true := plainFor_of_name (by first | (simp [plainName, overriddenIn]; done) | decide +kernel)
theorem ef_rm5_2 (m : MethodId) (a1 : Addr) (a2 : Addr) (p3 : Int32) (a4 : Addr) (k4 : ClassId) : entryFrame m #[(.ref a1), (.ref a2), (.int p3), (.ref a4)] 5 = mkF m 0 #[.val (.ref a1), .val (.ref a2), .val (.int p3), .val (.ref a4), .unset] [] := by first | (simp [entryFrame, mkF, argsToLocals, Value.category]; done) | rfl
def Q5_2 (Z : State) (a1 : Addr) (a2 : Addr) (p3 : Int32) (a4 : Addr) (k4 : ClassId) (h0 : Heap) (n0 : Nat) (v : Option Value) (h : Heap) (L : List Loc) : Prop := ∃ (b : Addr) (kb : ClassId), v = none ∧ Fr n0 L ∧ (Keep h0 h [a1]) ∧ (Exa Z h a1 "com/example/arcward/arcward/model/Variable") ∧ (Fld Z h a1 "com/example/arcward/arcward/model/Variable" "name" "Ljava/lang/String;" (.ref a2)) ∧ (Fld Z h a1 "com/example/arcward/arcward/model/Variable" "index" "I" (.int p3)) ∧ (Fld Z h a1 "com/example/arcward/arcward/model/Variable" "values" "[I" (.ref b)) ∧ (Arv Z h b kb .int (2 : Int32) [(.int (0 : Int32)), (.int (1 : Int32))] (.int (0 : Int32))) ∧ (n0 ≤ b) ∧ (h0.size ≤ b) ∧ (a1 ≠ b)
set_option maxRecDepth 65536 in
set_option maxHeartbeats 40000000 in
theorem rm5_2 (l : Launch) (Z : State) (a0 : Array Value) (hw : ∀ d ∈ tables_1, d.before a0 Z = true) (ws : List Jvm.Cond) (a1 : Addr) (a2 : Addr) (p3 : Int32) (a4 : Addr) (k4 : ClassId) (h0 : Heap) (n0 : Nat) (Z0 : n0 ≤ h0.size) (F0 : Exa Z h0 a1 "com/example/arcward/arcward/model/Variable") (F1 : Fld Z h0 a1 "com/example/arcward/arcward/model/Variable" "name" "Ljava/lang/String;" .null) (F2 : Fld Z h0 a1 "com/example/arcward/arcward/model/Variable" "index" "I" (.int (0 : Int32))) (F3 : Fld Z h0 a1 "com/example/arcward/arcward/model/Variable" "values" "[I" .null) (g1 : n0 ≤ a1) (V4 : Arv Z h0 a4 k4 .int (2 : Int32) [(.int (0 : Int32)), (.int (1 : Int32))] (.int (0 : Int32))) (X4 : Exa Z h0 a4 "[I") (n4 : a1 ≠ a4) :
  MetFree l (⟨"com/example/arcward/arcward/model/Variable", "<init>", "(Ljava/lang/String;I[I)V"⟩ : MethodName) (head1 (Jvm.Cond.code (⟨"com/example/arcward/arcward/model/Variable", "<init>", "(Ljava/lang/String;I[I)V"⟩ : MethodName) prog_43_method_1_code 5 none :: ws) ({ frames := 1, cells := 1, slots := 2, locals := 15 } : Room)) (fun a U => a = #[(.ref a1), (.ref a2), (.int p3), (.ref a4)] ∧ Z.Warmed39 U.vm ∧ U.heap = h0) (fun _ _ _ _ _ => True) (fun _ U o U' => ∃ v L, o = .returned v ∧ Q5_2 Z a1 a2 p3 a4 k4 h0 n0 v U'.heap L ∧ FrameEnd U o U' L ({ frames := 1, cells := 1, slots := 2, locals := 15 } : Room).cells ({ frames := 1, cells := 1, slots := 2, locals := 15 } : Room).slots) := by
 refine MetFree.of_bodySF pn5 hisR ?_
 intro p e s m args below meth c s₁ Bd hml0 hP hK
 obtain ⟨rfl, hZ, hh⟩ := hP
 have hx := Bd.exec
 have hby := Bd.bytes
 have hml : c.maxLocals = 5 := hml0
 have hown : s.vm.findClass "com/example/arcward/arcward/model/Variable" = some m.cls := findClass_of_methodNamed Bd.named
 have hnm := (name_of_methodNamed Bd.named Bd.method).1
 have X0 : Stand p l e ({ frames := 1, cells := 1, slots := 2, locals := 15 } : Room) s m #[(.ref a1), (.ref a2), (.int p3), (.ref a4)] below meth c s₁ [] 0 0 := Stand.of_body Bd
 have e0 : s₁.heap = h0 := by rw [← hh, Bd.state]; rfl
 have N0 := Fr.nil n0
 have p0 : Go p.tables e below (s₁.setTop (entryFrame m #[(.ref a1), (.ref a2), (.int p3), (.ref a4)] 5)) (s₁.setTop (mkF m 0 #[.val (.ref a1), .val (.ref a2), .val (.int p3), .val (.ref a4), .unset] [])) := fun t_ k_ => castTop (ef_rm5_2 m a1 a2 p3 a4 k4) k_
 have p101 : Go p.tables e below _ (s₁.setTop (mkF m 1 #[.val (.ref a1), .val (.ref a2), .val (.int p3), .val (.ref a4), .unset] [(.ref a1)])) := fun t_ k_ => p0 t_ (by
  refine XS.aloadN X0.here hx rfl (hb hby d5_0) rfl rfl ?_
  exact k_)
 obtain ⟨T102, X102, e102, st102⟩ := initO X0 hx hZ hown (own_w hw 41 rfl) (own_w hw 19 rfl) (own_w hw 20 rfl) e0 (g := (mkF m 1 #[.val (.ref a1), .val (.ref a2), .val (.int p3), .val (.ref a4), .unset] [(.ref a1)])) rfl (by rw [hml]; rfl) rfl (hb hby d5_1) (by decide) (W := 0) (by show 2 * 0 + _ ≤ _; exact Nat.le_of_eq rfl) (by decide)
 have p103 : Go p.tables e below _ (T102.setTop (mkF m 10 #[.val (.ref a1), .val (.ref a2), .val (.int p3), .val (.ref a4), .val (.int (1 : Int32))] [(.ref a4), (.int (1 : Int32))])) := fun t_ k_ => (gc p101 st102) t_ (by
  refine XS.iconst X102.here hx rfl (hb hby d5_4) ?_
  refine XS.istore X102.here hx rfl (hb hby d5_5) rfl (l' := #[.val (.ref a1), .val (.ref a2), .val (.int p3), .val (.ref a4), .val (.int (1 : Int32))]) rfl ?_
  refine XS.iload X102.here hx rfl (hb hby d5_7) rfl ?_
  refine XS.aloadN X102.here hx rfl (hb hby d5_9) rfl rfl ?_
  exact k_)
 obtain ⟨cl104, Ar104, -, S104, Ng104, -, -⟩ := id V4
 have p105 : Go p.tables e below _ (T102.setTop (mkF m 19 #[.val (.ref a1), .val (.ref a2), .val (.int p3), .val (.ref a4), .val (.int (1 : Int32))] [(.int (0 : Int32)), (.ref a4)])) := fun t_ k_ => p103 t_ (by
  refine X102.arraylength hx (by rw [e102]; exact Ar104.1) (State.isArrayOf_alike hZ.alike Ar104.2.1) (g := (mkF m 10 #[.val (.ref a1), .val (.ref a2), .val (.int p3), .val (.ref a4), .val (.int (1 : Int32))] [(.ref a4), (.int (1 : Int32))])) rfl rfl (hb hby d5_10) _ ?_
  rw [len_of S104 Ng104]
  show Steps p.tables e below (T102.setTop (mkF m 11 #[.val (.ref a1), .val (.ref a2), .val (.int p3), .val (.ref a4), .val (.int (1 : Int32))] [(.int (2 : Int32)), (.int (1 : Int32))])) _
  refine XS.icmpNo X102.here hx rfl (hb hby d5_11) rfl (tlt (by decide : ((1 : Int32) < (2 : Int32)))).2.1 ?_
  refine XS.aloadN X102.here hx rfl (hb hby d5_14) rfl rfl ?_
  refine XS.iload X102.here hx rfl (hb hby d5_15) rfl ?_
  refine XS.iconst X102.here hx rfl (hb hby d5_17) ?_
  refine XS.isub X102.here hx rfl (hb hby d5_18) rfl ?_
  exact k_)
 obtain ⟨cl106, Ar106, q106, S106, Ng106, H106, G106⟩ := id V4
 have hin106 := inb_of S106 (j := (0 : Int32)) ⟨by decide, by decide⟩
 have hat106 := H106.at (v := (.int (0 : Int32))) hin106 rfl
 have p107 : Go p.tables e below _ (T102.setTop (mkF m 23 #[.val (.ref a1), .val (.ref a2), .val (.int p3), .val (.ref a4), .val (.int (1 : Int32))] [(.int (1 : Int32)), (.ref a4), (.int (0 : Int32))])) := fun t_ k_ => p105 t_ (by
  refine X102.iaload hx (j := (0 : Int32)) (v := (.int (0 : Int32))) (by rw [e102]; exact Ar106.1) (State.isArrayOf_alike hZ.alike Ar106.2.1) Ar106.2.2 hin106 hat106 (g := (mkF m 19 #[.val (.ref a1), .val (.ref a2), .val (.int p3), .val (.ref a4), .val (.int (1 : Int32))] [(.int (0 : Int32)), (.ref a4)])) rfl rfl (hb hby d5_19) _ ?_
  refine XS.aloadN X102.here hx rfl (hb hby d5_20) rfl rfl ?_
  refine XS.iload X102.here hx rfl (hb hby d5_21) rfl ?_
  exact k_)
 obtain ⟨cl108, Ar108, q108, S108, Ng108, H108, G108⟩ := id V4
 have hin108 := inb_of S108 (j := (1 : Int32)) ⟨by decide, by decide⟩
 have hat108 := H108.at (v := (.int (1 : Int32))) hin108 rfl
 have p109 : Go p.tables e below _ (T102.setTop (mkF m 10 #[.val (.ref a1), .val (.ref a2), .val (.int p3), .val (.ref a4), .val (.int (2 : Int32))] [(.ref a4), (.int (2 : Int32))])) := fun t_ k_ => p107 t_ (by
  refine X102.iaload hx (j := (1 : Int32)) (v := (.int (1 : Int32))) (by rw [e102]; exact Ar108.1) (State.isArrayOf_alike hZ.alike Ar108.2.1) Ar108.2.2 hin108 hat108 (g := (mkF m 23 #[.val (.ref a1), .val (.ref a2), .val (.int p3), .val (.ref a4), .val (.int (1 : Int32))] [(.int (1 : Int32)), (.ref a4), (.int (0 : Int32))])) rfl rfl (hb hby d5_23) _ ?_
  refine XS.icmpYes X102.here hx rfl (pc0 := 24) (pc' := 41) rfl (hb hby d5_24) rfl (tlt (by decide : ((0 : Int32) < (1 : Int32)))).1 (by decide) (by decide) ?_
  refine XS.iinc X102.here hx rfl (hb hby d5_41) rfl (l' := #[.val (.ref a1), .val (.ref a2), .val (.int p3), .val (.ref a4), .val (.int (2 : Int32))]) rfl ?_
  refine XS.goto X102.here hx rfl (pc0 := 44) (pc' := 7) rfl (hb hby d5_44) (by decide) (by decide) ?_
  refine XS.iload X102.here hx rfl (hb hby d5_7) rfl ?_
  refine XS.aloadN X102.here hx rfl (hb hby d5_9) rfl rfl ?_
  exact k_)
 obtain ⟨cl110, Ar110, -, S110, Ng110, -, -⟩ := id V4
 have p111 : Go p.tables e below _ (T102.setTop (mkF m 49 #[.val (.ref a1), .val (.ref a2), .val (.int p3), .val (.ref a4), .val (.int (2 : Int32))] [(.ref a2), (.ref a1)])) := fun t_ k_ => p109 t_ (by
  refine X102.arraylength hx (by rw [e102]; exact Ar110.1) (State.isArrayOf_alike hZ.alike Ar110.2.1) (g := (mkF m 10 #[.val (.ref a1), .val (.ref a2), .val (.int p3), .val (.ref a4), .val (.int (2 : Int32))] [(.ref a4), (.int (2 : Int32))])) rfl rfl (hb hby d5_10) _ ?_
  rw [len_of S110 Ng110]
  show Steps p.tables e below (T102.setTop (mkF m 11 #[.val (.ref a1), .val (.ref a2), .val (.int p3), .val (.ref a4), .val (.int (2 : Int32))] [(.int (2 : Int32)), (.int (2 : Int32))])) _
  refine XS.icmpYes X102.here hx rfl (pc0 := 11) (pc' := 47) rfl (hb hby d5_11) rfl (flt (by decide : ¬ ((2 : Int32) < (2 : Int32)))).2.1 (by decide) (by decide) ?_
  refine XS.aloadN X102.here hx rfl (hb hby d5_47) rfl rfl ?_
  refine XS.aloadN X102.here hx rfl (hb hby d5_48) rfl rfl ?_
  exact k_)
 obtain ⟨T112, h112, X112, e112, W112, st112⟩ := putF X102 hx hZ hown (host := "") (Or.inl (own_w hw 42 rfl)) Via.refl e102 F1 F0 (Or.inr ⟨(own_w hw 43 rfl), rfl, hnm⟩) (own_w hw 27 rfl) (ty := (.object "java/lang/String")) (by decide) rfl rfl (g := (mkF m 49 #[.val (.ref a1), .val (.ref a2), .val (.int p3), .val (.ref a4), .val (.int (2 : Int32))] [(.ref a2), (.ref a1)])) rfl rfl (hb hby d5_49)
 have K113 : Keep h0 h112 [a1] := (Keep.refl h0 [a1]).wr W112 (Or.inl (List.mem_of_getElem? (i := 0) rfl))
 have N112 := Fr.snoc X112 N0 g1
 have F112 : Fld Z h112 a1 "com/example/arcward/arcward/model/Variable" "name" "Ljava/lang/String;" (.ref a2) := F1.same W112
 have p114 : Go p.tables e below _ (T112.setTop (mkF m 54 #[.val (.ref a1), .val (.ref a2), .val (.int p3), .val (.ref a4), .val (.int (2 : Int32))] [(.int p3), (.ref a1)])) := fun t_ k_ => (gc p111 st112) t_ (by
  refine XS.aloadN X112.here hx rfl (hb hby d5_52) rfl rfl ?_
  refine XS.iloadN X112.here hx rfl (hb hby d5_53) rfl ?_
  exact k_)
 have f115 := (F2.other W112 (Or.inr (slot_ne (Or.inr (own_w hw 45 rfl)) (Or.inr (own_w hw 43 rfl)) (by decide) (t := .int) (t' := (.object "java/lang/String")) (by decide) (by decide))))
 have f116 := (F0.wr W112)
 obtain ⟨T117, h117, X117, e117, W117, st117⟩ := putF X112 hx hZ hown (host := "") (Or.inl (own_w hw 44 rfl)) Via.refl e112 f115 f116 (Or.inr ⟨(own_w hw 45 rfl), rfl, hnm⟩) (own_w hw 27 rfl) (ty := .int) (by decide) rfl rfl (g := (mkF m 54 #[.val (.ref a1), .val (.ref a2), .val (.int p3), .val (.ref a4), .val (.int (2 : Int32))] [(.int p3), (.ref a1)])) rfl rfl (hb hby d5_54)
 have K118 : Keep h0 h117 [a1] := K113.wr W117 (Or.inl (List.mem_of_getElem? (i := 0) rfl))
 have N117 := Fr.snoc X117 N112 g1
 have F117 : Fld Z h117 a1 "com/example/arcward/arcward/model/Variable" "index" "I" (.int p3) := f115.same W117
 have p119 : Go p.tables e below _ (T117.setTop (mkF m 59 #[.val (.ref a1), .val (.ref a2), .val (.int p3), .val (.ref a4), .val (.int (2 : Int32))] [(.ref a4), (.ref a1)])) := fun t_ k_ => (gc p114 st117) t_ (by
  refine XS.aloadN X117.here hx rfl (hb hby d5_57) rfl rfl ?_
  refine XS.aloadN X117.here hx rfl (hb hby d5_58) rfl rfl ?_
  exact k_)
 have f120 := ((V4.other W112 (Ne.symm n4)).other W117 (Ne.symm n4))
 have f121 := ((X4.wr W112).wr W117)
 obtain ⟨T122, h122, X122, e122, E122, V122, A122, st122⟩ := cloneH X117 hx hZ hown (own_w hw 46 rfl) (own_w hw 47 rfl) (own_w hw 51 rfl) (own_w hw 49 rfl) (own_w hw 50 rfl) (own_w hw 52 rfl) e117 (Arv.arh f120) f121 (g := (mkF m 59 #[.val (.ref a1), .val (.ref a2), .val (.int p3), .val (.ref a4), .val (.int (2 : Int32))] [(.ref a4), (.ref a1)])) rfl (by rw [hml]; rfl) rfl (hb hby d5_59) (by decide) (W := 1) (cap := 2) (by show 2 * 0 + _ ≤ _; exact Nat.le_of_eq rfl) (by decide) (by decide) (by decide) (by decide)
 obtain ⟨b122, g122⟩ : ∃ z, z = h117.size := ⟨_, rfl⟩
 rw [← g122] at A122 V122 st122
 have f123 := (f116.wr W117)
 have ne_a1_b122 : a1 ≠ b122 := Nat.ne_of_lt (Nat.lt_of_lt_of_le f123.lt (Nat.le_of_eq g122.symm))
 have ne_a4_b122 : a4 ≠ b122 := Nat.ne_of_lt (Nat.lt_of_lt_of_le f120.lt (Nat.le_of_eq g122.symm))
 have ge_b122 : n0 ≤ b122 := Nat.le_trans (Nat.le_trans Z0 K118.1) (Nat.le_of_eq g122.symm)
 have sz_b122 : h0.size ≤ b122 := Nat.le_trans K118.1 (Nat.le_of_eq g122.symm)
 have K124 : Keep h0 h122 [a1] := K118.ext E122
 have VV122 : Arv Z h122 b122 k4 .int (2 : Int32) [(.int (0 : Int32)), (.int (1 : Int32))] (.int (0 : Int32)) := V122
 obtain ⟨T125, X125, e125, st125⟩ := castY X122 hx hZ hown (own_w hw 53 rfl) e122 (Ins.self A122) (g := (mkF m 62 #[.val (.ref a1), .val (.ref a2), .val (.int p3), .val (.ref a4), .val (.int (2 : Int32))] [(.ref b122), (.ref a1)])) rfl rfl (hb hby d5_62)
 have f126 := (((F3.other W112 (Or.inr (slot_ne (Or.inr (own_w hw 56 rfl)) (Or.inr (own_w hw 43 rfl)) (by decide) (t := (.array .int)) (t' := (.object "java/lang/String")) (by decide) (by decide)))).other W117 (Or.inr (slot_ne (Or.inr (own_w hw 56 rfl)) (Or.inr (own_w hw 45 rfl)) (by decide) (t := (.array .int)) (t' := .int) (by decide) (by decide)))).ext E122)
 have f127 := (f123.ext E122)
 obtain ⟨T128, h128, X128, e128, W128, st128⟩ := putF X125 hx hZ hown (host := "") (Or.inl (own_w hw 55 rfl)) Via.refl e125 f126 f127 (Or.inr ⟨(own_w hw 56 rfl), rfl, hnm⟩) (own_w hw 27 rfl) (ty := (.array .int)) (by decide) rfl rfl (g := (mkF m 65 #[.val (.ref a1), .val (.ref a2), .val (.int p3), .val (.ref a4), .val (.int (2 : Int32))] [(.ref b122), (.ref a1)])) rfl rfl (hb hby d5_65)
 have K129 : Keep h0 h128 [a1] := K124.wr W128 (Or.inl (List.mem_of_getElem? (i := 0) rfl))
 have N128 := Fr.snoc X128 N117 g1
 have F128 : Fld Z h128 a1 "com/example/arcward/arcward/model/Variable" "values" "[I" (.ref b122) := f126.same W128
 have f130 := (f127.wr W128)
 have f131 := (((F112.other W117 (Or.inr (slot_ne (Or.inr (own_w hw 43 rfl)) (Or.inr (own_w hw 45 rfl)) (by decide) (t := (.object "java/lang/String")) (t' := .int) (by decide) (by decide)))).ext E122).other W128 (Or.inr (slot_ne (Or.inr (own_w hw 43 rfl)) (Or.inr (own_w hw 56 rfl)) (by decide) (t := (.object "java/lang/String")) (t' := (.array .int)) (by decide) (by decide))))
 have f132 := ((F117.ext E122).other W128 (Or.inr (slot_ne (Or.inr (own_w hw 45 rfl)) (Or.inr (own_w hw 56 rfl)) (by decide) (t := .int) (t' := (.array .int)) (by decide) (by decide))))
 have f133 := (VV122.other W128 (Ne.symm ne_a1_b122))
 obtain ⟨fs, hr, hrun, hended, hW, hsame⟩ := X128.leave (v := none) (fun _ => rfl)
 refine ⟨_, _, (gc (gc (gc p119 st122) st125) st128) _ (X128.returnOut hx Bd.returns (hb hby d5_68) hr), hrun, hended, _, _, rfl, ?_, ⟨_, rfl⟩, hW, hsame.mono (by decide) (by decide)⟩
 show Q5_2 Z a1 a2 p3 a4 k4 h0 n0 _ T128.heap _
 rw [e128]
 exact ⟨b122, k4, rfl, N128, K129, f130, f131, f132, F128, f133, ge_b122, sz_b122, ne_a1_b122⟩
theorem d11_0 : decode prog_11_method_1_code 0 = .ok (.aload_n 0, 1) := by decide +kernel
theorem d11_1 : decode prog_11_method_1_code 1 = .ok (.invokespecial 1, 3) := by decide +kernel
theorem d11_4 : decode prog_11_method_1_code 4 = .ok (.aload_n 0, 1) := by decide +kernel
theorem d11_5 : decode prog_11_method_1_code 5 = .ok (.aload_n 1, 1) := by decide +kernel
theorem d11_6 : decode prog_11_method_1_code 6 = .ok (.invokestatic 7, 3) := by decide +kernel
theorem d11_9 : decode prog_11_method_1_code 9 = .ok (.putfield 13, 3) := by decide +kernel
theorem d11_12 : decode prog_11_method_1_code 12 = .ok (.aload_n 0, 1) := by decide +kernel
theorem d11_13 : decode prog_11_method_1_code 13 = .ok (.aload_n 2, 1) := by decide +kernel
theorem d11_14 : decode prog_11_method_1_code 14 = .ok (.invokestatic 7, 3) := by decide +kernel
theorem d11_17 : decode prog_11_method_1_code 17 = .ok (.putfield 19, 3) := by decide +kernel
theorem d11_20 : decode prog_11_method_1_code 20 = .ok (.iconst 0, 1) := by decide +kernel
theorem d11_21 : decode prog_11_method_1_code 21 = .ok (.istore_n 3, 1) := by decide +kernel
theorem d11_22 : decode prog_11_method_1_code 22 = .ok (.iload_n 3, 1) := by decide +kernel
theorem d11_23 : decode prog_11_method_1_code 23 = .ok (.aload_n 0, 1) := by decide +kernel
theorem d11_24 : decode prog_11_method_1_code 24 = .ok (.getfield 13, 3) := by decide +kernel
theorem d11_27 : decode prog_11_method_1_code 27 = .ok (.invokeinterface 22 1, 5) := by decide +kernel
theorem d11_32 : decode prog_11_method_1_code 32 = .ok (.if_icmp .ge 72, 3) := by decide +kernel
theorem d11_35 : decode prog_11_method_1_code 35 = .ok (.aload_n 0, 1) := by decide +kernel
theorem d11_36 : decode prog_11_method_1_code 36 = .ok (.getfield 13, 3) := by decide +kernel
theorem d11_39 : decode prog_11_method_1_code 39 = .ok (.iload_n 3, 1) := by decide +kernel
theorem d11_40 : decode prog_11_method_1_code 40 = .ok (.invokeinterface 26 2, 5) := by decide +kernel
theorem d11_45 : decode prog_11_method_1_code 45 = .ok (.checkcast 30, 3) := by decide +kernel
theorem d11_48 : decode prog_11_method_1_code 48 = .ok (.invokevirtual 32, 3) := by decide +kernel
theorem d11_51 : decode prog_11_method_1_code 51 = .ok (.iload_n 3, 1) := by decide +kernel
theorem d11_52 : decode prog_11_method_1_code 52 = .ok (.if_icmp .eq 46, 3) := by decide +kernel
theorem d11_98 : decode prog_11_method_1_code 98 = .ok (.iinc 3 1, 3) := by decide +kernel
theorem d11_101 : decode prog_11_method_1_code 101 = .ok (.goto (-79), 3) := by decide +kernel
theorem d11_104 : decode prog_11_method_1_code 104 = .ok (.aload_n 0, 1) := by decide +kernel
theorem d11_105 : decode prog_11_method_1_code 105 = .ok (.getfield 19, 3) := by decide +kernel
theorem d11_108 : decode prog_11_method_1_code 108 = .ok (.invokeinterface 50 1, 5) := by decide +kernel
theorem d11_113 : decode prog_11_method_1_code 113 = .ok (.astore_n 3, 1) := by decide +kernel
theorem d11_114 : decode prog_11_method_1_code 114 = .ok (.aload_n 3, 1) := by decide +kernel
theorem d11_115 : decode prog_11_method_1_code 115 = .ok (.invokeinterface 54 1, 5) := by decide +kernel
theorem d11_120 : decode prog_11_method_1_code 120 = .ok (.ifCond .eq 99, 3) := by decide +kernel
theorem d11_219 : decode prog_11_method_1_code 219 = .ok (.return_, 1) := by decide +kernel
theorem pd15 : parseMethodDescriptor "(I)Ljava/lang/Object;" = some ⟨[.int], some (.object "java/lang/Object")⟩ := by decide +kernel
theorem pd16 : parseMethodDescriptor "()Ljava/util/Iterator;" = some ⟨[], some (.object "java/util/Iterator")⟩ := by decide +kernel
theorem pn11 : plainFor (⟨"com/example/arcward/arcward/model/Instance", "<init>", "(Ljava/util/List;Ljava/util/List;)V"⟩ : MethodName) = true := plainFor_of_name (by first | (simp [plainName, overriddenIn]; done) | decide +kernel)
theorem ef_rm11 (m : MethodId) (a1 : Addr) (a2 : Addr) (a3 : Addr) (mc : Int32) (me : Int32) (ed : Addr) (kd : ClassId) (x0 : Addr) (x1 : Addr) (de : Addr) (kde : ClassId) (el : Addr) (ea : Addr) (kea : ClassId) (em : Addr) (mr : Addr) : entryFrame m #[(.ref a1), (.ref a2), (.ref a3)] 7 = mkF m 0 #[.val (.ref a1), .val (.ref a2), .val (.ref a3), .unset, .unset, .unset, .unset] [] := by first | (simp [entryFrame, mkF, argsToLocals, Value.category]; done) | rfl
def Q11 (Z : State) (a1 : Addr) (a2 : Addr) (a3 : Addr) (mc : Int32) (me : Int32) (ed : Addr) (kd : ClassId) (x0 : Addr) (x1 : Addr) (de : Addr) (kde : ClassId) (el : Addr) (ea : Addr) (kea : ClassId) (em : Addr) (mr : Addr) (h0 : Heap) (n0 : Nat) (v : Option Value) (h : Heap) (L : List Loc) : Prop := ∃ (b : Addr), v = none ∧ Fr n0 L ∧ (Keep h0 h [a1]) ∧ (Exa Z h a1 "com/example/arcward/arcward/model/Instance") ∧ (Fld Z h a1 "com/example/arcward/arcward/model/Instance" "variables" "Ljava/util/List;" (.ref b)) ∧ (Fld Z h a1 "com/example/arcward/arcward/model/Instance" "constraints" "Ljava/util/List;" (.ref el)) ∧ (Exa Z h b "java/util/ImmutableCollections$List12") ∧ (Fld Z h b "java/util/ImmutableCollections$List12" "e0" "Ljava/lang/Object;" (.ref x0)) ∧ (Fld Z h b "java/util/ImmutableCollections$List12" "e1" "Ljava/lang/Object;" (.ref x1)) ∧ (n0 ≤ b) ∧ (h0.size ≤ b) ∧ (a1 ≠ b)
set_option maxRecDepth 65536 in
set_option maxHeartbeats 40000000 in
theorem rm11 (l : Launch) (Z : State) (a0 : Array Value) (hw : ∀ d ∈ tables_1, d.before a0 Z = true) (ws : List Jvm.Cond) (a1 : Addr) (a2 : Addr) (a3 : Addr) (mc : Int32) (me : Int32) (ed : Addr) (kd : ClassId) (x0 : Addr) (x1 : Addr) (de : Addr) (kde : ClassId) (el : Addr) (ea : Addr) (kea : ClassId) (em : Addr) (mr : Addr) (h0 : Heap) (n0 : Nat) (Z0 : n0 ≤ h0.size) (O1 : Old Z n0 h0) (G : own_H Z de kde el ea kea em mr) (F0 : Exa Z h0 a1 "com/example/arcward/arcward/model/Instance") (F1 : Fld Z h0 a1 "com/example/arcward/arcward/model/Instance" "variables" "Ljava/util/List;" .null) (F2 : Fld Z h0 a1 "com/example/arcward/arcward/model/Instance" "constraints" "Ljava/util/List;" .null) (g1 : n0 ≤ a1) (A0 : Exa Z h0 a2 "java/util/ArrayList") (A1 : Fld Z h0 a2 "java/util/AbstractList" "modCount" "I" (.int mc)) (A2 : Fld Z h0 a2 "java/util/ArrayList" "elementData" "[Ljava/lang/Object;" (.ref ed)) (A3 : Fld Z h0 a2 "java/util/ArrayList" "size" "I" (.int (2 : Int32))) (D0 : Arv Z h0 ed kd (.object "java/lang/Object") (10 : Int32) [(.ref x0), (.ref x1), .null, .null, .null, .null, .null, .null, .null, .null] .null) (D1 : Exa Z h0 ed "[Ljava/lang/Object;") (D2 : Exa Z h0 x0 "com/example/arcward/arcward/model/Variable") (D3 : Exa Z h0 x1 "com/example/arcward/arcward/model/Variable") (D4 : Fld Z h0 x0 "com/example/arcward/arcward/model/Variable" "index" "I" (.int (0 : Int32))) (D5 : Fld Z h0 x1 "com/example/arcward/arcward/model/Variable" "index" "I" (.int (1 : Int32))) (E0 : Exa Z h0 a3 "java/util/ArrayList") (E1 : Fld Z h0 a3 "java/util/AbstractList" "modCount" "I" (.int me)) (E2 : Fld Z h0 a3 "java/util/ArrayList" "elementData" "[Ljava/lang/Object;" (.ref de)) (E3 : Fld Z h0 a3 "java/util/ArrayList" "size" "I" (.int (0 : Int32))) (gx : n0 ≤ x1) (na2 : a1 ≠ a2) (na3 : a1 ≠ a3) (ned : a1 ≠ ed) (nx0 : a1 ≠ x0) (nx1 : a1 ≠ x1) :
  MetFree l (⟨"com/example/arcward/arcward/model/Instance", "<init>", "(Ljava/util/List;Ljava/util/List;)V"⟩ : MethodName) (head1 (Jvm.Cond.code (⟨"com/example/arcward/arcward/model/Instance", "<init>", "(Ljava/util/List;Ljava/util/List;)V"⟩ : MethodName) prog_11_method_1_code 7 none :: ws) ({ frames := 8, cells := 3, slots := 8, locals := 102 } : Room)) (fun a U => a = #[(.ref a1), (.ref a2), (.ref a3)] ∧ Z.Warmed39 U.vm ∧ U.heap = h0) (fun _ _ _ _ _ => True) (fun _ U o U' => ∃ v L, o = .returned v ∧ Q11 Z a1 a2 a3 mc me ed kd x0 x1 de kde el ea kea em mr h0 n0 v U'.heap L ∧ FrameEnd U o U' L ({ frames := 8, cells := 3, slots := 8, locals := 102 } : Room).cells ({ frames := 8, cells := 3, slots := 8, locals := 102 } : Room).slots) := by
 refine MetFree.of_bodySF pn11 hisR ?_
 intro p e s m args below meth c s₁ Bd hml0 hP hK
 obtain ⟨rfl, hZ, hh⟩ := hP
 have hx := Bd.exec
 have hby := Bd.bytes
 have hml : c.maxLocals = 7 := hml0
 have hown : s.vm.findClass "com/example/arcward/arcward/model/Instance" = some m.cls := findClass_of_methodNamed Bd.named
 have hnm := (name_of_methodNamed Bd.named Bd.method).1
 have X0 : Stand p l e ({ frames := 8, cells := 3, slots := 8, locals := 102 } : Room) s m #[(.ref a1), (.ref a2), (.ref a3)] below meth c s₁ [] 0 0 := Stand.of_body Bd
 have e0 : s₁.heap = h0 := by rw [← hh, Bd.state]; rfl
 have N0 := Fr.nil n0
 have p0 : Go p.tables e below (s₁.setTop (entryFrame m #[(.ref a1), (.ref a2), (.ref a3)] 7)) (s₁.setTop (mkF m 0 #[.val (.ref a1), .val (.ref a2), .val (.ref a3), .unset, .unset, .unset, .unset] [])) := fun t_ k_ => castTop (ef_rm11 m a1 a2 a3 mc me ed kd x0 x1 de kde el ea kea em mr) k_
 have p101 : Go p.tables e below _ (s₁.setTop (mkF m 1 #[.val (.ref a1), .val (.ref a2), .val (.ref a3), .unset, .unset, .unset, .unset] [(.ref a1)])) := fun t_ k_ => p0 t_ (by
  refine XS.aloadN X0.here hx rfl (hb hby d11_0) rfl rfl ?_
  exact k_)
 obtain ⟨T102, X102, e102, st102⟩ := initO X0 hx hZ hown (own_w hw 98 rfl) (own_w hw 19 rfl) (own_w hw 20 rfl) e0 (g := (mkF m 1 #[.val (.ref a1), .val (.ref a2), .val (.ref a3), .unset, .unset, .unset, .unset] [(.ref a1)])) rfl (by rw [hml]; rfl) rfl (hb hby d11_1) (by decide) (W := 0) (by show 2 * 0 + _ ≤ _; exact Nat.le_of_eq rfl) (by decide)
 have p103 : Go p.tables e below _ (T102.setTop (mkF m 6 #[.val (.ref a1), .val (.ref a2), .val (.ref a3), .unset, .unset, .unset, .unset] [(.ref a2), (.ref a1)])) := fun t_ k_ => (gc p101 st102) t_ (by
  refine XS.aloadN X102.here hx rfl (hb hby d11_4) rfl rfl ?_
  refine XS.aloadN X102.here hx rfl (hb hby d11_5) rfl rfl ?_
  exact k_)
 obtain ⟨_, _, ⟨T104, L104, k104, n104⟩, -, X104, ⟨Lc104, hQ104, l104, y104, z104⟩, st104⟩ := Jvm.LawKit.callS X102 hx (y := (⟨"java/util/List", "copyOf", "(Ljava/util/Collection;)Ljava/util/List;"⟩ : MethodName)) hown (mvT hZ (own_w hw 99 rfl)) (mvT hZ (own_w hw 100 rfl)) (mvT hZ (own_w hw 101 rfl)) (mvT hZ (own_w hw 102 rfl)) (by decide) (backOf (W := 1) (rm12_2 l Z a0 hw [] a2 mc ed kd x0 x1 de kde el ea kea em mr h0 n0 (Nat.le_trans Z0 (Keep.refl h0 [a1]).1) O1 G A0 A1 A2 A3 D0 D1 D2 D3) hZ (own_w hw 102 rfl) (own_w hw 101 rfl) (by decide) (by decide)) (g := (mkF m 6 #[.val (.ref a1), .val (.ref a2), .val (.ref a3), .unset, .unset, .unset, .unset] [(.ref a2), (.ref a1)])) rfl (by rw [hml]; rfl) (argsL := [(.ref a2)]) (rest := [(.ref a1)]) (lenOf pd11 rfl) rfl (by show 2 * 0 + _ ≤ _; exact Nat.le_of_eq rfl) (hb hby d11_6) (fun _ _ => ⟨rfl, e102, (by decide : 0 + 2 ≤ _), (by decide : 0 + 4 ≤ _)⟩)
 dsimp only [Pt.U, Pt.locs, Pt.cells, Pt.slots] at X104 l104 y104 z104 st104 hQ104
 subst l104 y104 z104
 obtain ⟨x105, rfl, N104q, q104_K, q104_F0, q104_F1, q104_F2, q104_g, q104_z⟩ := hQ104
 have N104 := Fr.app N0 N104q
 have K106 : Keep h0 T104.heap [a1] := (Keep.refl h0 [a1]).trans q104_K all0
 have ne_a1_x105 : a1 ≠ x105 := Nat.ne_of_lt (Nat.lt_of_lt_of_le F0.lt q104_z)
 have ne_a2_x105 : a2 ≠ x105 := Nat.ne_of_lt (Nat.lt_of_lt_of_le A0.lt q104_z)
 have ne_ed_x105 : ed ≠ x105 := Nat.ne_of_lt (Nat.lt_of_lt_of_le D0.lt q104_z)
 have ne_x0_x105 : x0 ≠ x105 := Nat.ne_of_lt (Nat.lt_of_lt_of_le D2.lt q104_z)
 have ne_x1_x105 : x1 ≠ x105 := Nat.ne_of_lt (Nat.lt_of_lt_of_le D3.lt q104_z)
 have ne_a3_x105 : a3 ≠ x105 := Nat.ne_of_lt (Nat.lt_of_lt_of_le E0.lt q104_z)
 have f107 := (F1.keep q104_K nin0)
 have f108 := (F0.keep q104_K)
 obtain ⟨T109, h109, X109, e109, W109, st109⟩ := putF X104 hx hZ hown (host := "") (Or.inl (own_w hw 184 rfl)) Via.refl rfl f107 f108 (Or.inr ⟨(own_w hw 185 rfl), rfl, hnm⟩) (own_w hw 93 rfl) (ty := (.object "java/util/List")) (by decide) rfl rfl (g := (mkF m 9 #[.val (.ref a1), .val (.ref a2), .val (.ref a3), .unset, .unset, .unset, .unset] [(.ref x105), (.ref a1)])) rfl rfl (hb hby d11_9)
 have K110 : Keep h0 h109 [a1] := K106.wr W109 (Or.inl (List.mem_of_getElem? (i := 0) rfl))
 have N109 := Fr.snoc X109 N104 g1
 have F109 : Fld Z h109 a1 "com/example/arcward/arcward/model/Instance" "variables" "Ljava/util/List;" (.ref x105) := f107.same W109
 have p111 : Go p.tables e below _ (T109.setTop (mkF m 14 #[.val (.ref a1), .val (.ref a2), .val (.ref a3), .unset, .unset, .unset, .unset] [(.ref a3), (.ref a1)])) := fun t_ k_ => (gc (gc p103 st104) st109) t_ (by
  refine XS.aloadN X109.here hx rfl (hb hby d11_12) rfl rfl ?_
  refine XS.aloadN X109.here hx rfl (hb hby d11_13) rfl rfl ?_
  exact k_)
 have f112 := ((O1.keep q104_K all0).wr W109 g1)
 have f113 := ((E0.keep q104_K).wr W109)
 have f114 := ((E1.keep q104_K nin0).other W109 (Or.inl (Ne.symm na3)))
 have f115 := ((E2.keep q104_K nin0).other W109 (Or.inl (Ne.symm na3)))
 have f116 := ((E3.keep q104_K nin0).other W109 (Or.inl (Ne.symm na3)))
 obtain ⟨_, _, ⟨T117, L117, k117, n117⟩, -, X117, ⟨Lc117, hQ117, l117, y117, z117⟩, st117⟩ := Jvm.LawKit.callS X109 hx (y := (⟨"java/util/List", "copyOf", "(Ljava/util/Collection;)Ljava/util/List;"⟩ : MethodName)) hown (mvT hZ (own_w hw 99 rfl)) (mvT hZ (own_w hw 100 rfl)) (mvT hZ (own_w hw 101 rfl)) (mvT hZ (own_w hw 102 rfl)) (by decide) (backOf (W := 1) (rm12_0 l Z a0 hw [] a3 me de kde el ea kea em mr h109 n0 (Nat.le_trans Z0 K110.1) f112 G f113 f114 f115 f116) hZ (own_w hw 102 rfl) (own_w hw 101 rfl) (by decide) (by decide)) (g := (mkF m 14 #[.val (.ref a1), .val (.ref a2), .val (.ref a3), .unset, .unset, .unset, .unset] [(.ref a3), (.ref a1)])) rfl (by rw [hml]; rfl) (argsL := [(.ref a3)]) (rest := [(.ref a1)]) (lenOf pd11 rfl) rfl (by show 2 * 0 + _ ≤ _; exact Nat.le_of_eq rfl) (hb hby d11_14) (fun _ _ => ⟨rfl, e109, (by decide : 2 + 0 ≤ _), (by decide : 4 + 0 ≤ _)⟩)
 dsimp only [Pt.U, Pt.locs, Pt.cells, Pt.slots] at X117 l117 y117 z117 st117 hQ117
 subst l117 y117 z117
 obtain ⟨rfl, N117q, q117_hh⟩ := hQ117
 have N117 := Fr.app N109 N117q
 have f118 := ((F2.keep q104_K nin0).other W109 (Or.inr (slot_ne (Or.inr (own_w hw 191 rfl)) (Or.inr (own_w hw 185 rfl)) (by decide) (t := (.object "java/util/List")) (t' := (.object "java/util/List")) (by decide) (by decide))))
 have f119 := (f108.wr W109)
 obtain ⟨T120, h120, X120, e120, W120, st120⟩ := putF X117 hx hZ hown (host := "") (Or.inl (own_w hw 190 rfl)) Via.refl q117_hh f118 f119 (Or.inr ⟨(own_w hw 191 rfl), rfl, hnm⟩) (own_w hw 93 rfl) (ty := (.object "java/util/List")) (by decide) rfl rfl (g := (mkF m 17 #[.val (.ref a1), .val (.ref a2), .val (.ref a3), .unset, .unset, .unset, .unset] [(.ref el), (.ref a1)])) rfl rfl (hb hby d11_17)
 have K121 : Keep h0 h120 [a1] := K110.wr W120 (Or.inl (List.mem_of_getElem? (i := 0) rfl))
 have N120 := Fr.snoc X120 N117 g1
 have F120 : Fld Z h120 a1 "com/example/arcward/arcward/model/Instance" "constraints" "Ljava/util/List;" (.ref el) := f118.same W120
 have p122 : Go p.tables e below _ (T120.setTop (mkF m 24 #[.val (.ref a1), .val (.ref a2), .val (.ref a3), .val (.int (0 : Int32)), .unset, .unset, .unset] [(.ref a1), (.int (0 : Int32))])) := fun t_ k_ => (gc (gc p111 st117) st120) t_ (by
  refine XS.iconst X120.here hx rfl (hb hby d11_20) ?_
  refine XS.istoreN X120.here hx rfl (hb hby d11_21) rfl (l' := #[.val (.ref a1), .val (.ref a2), .val (.ref a3), .val (.int (0 : Int32)), .unset, .unset, .unset]) rfl ?_
  refine XS.iloadN X120.here hx rfl (hb hby d11_22) rfl ?_
  refine XS.aloadN X120.here hx rfl (hb hby d11_23) rfl rfl ?_
  exact k_)
 have f123 := (F109.other W120 (Or.inr (slot_ne (Or.inr (own_w hw 185 rfl)) (Or.inr (own_w hw 191 rfl)) (by decide) (t := (.object "java/util/List")) (t' := (.object "java/util/List")) (by decide) (by decide))))
 obtain ⟨T124, X124, e124, st124⟩ := getF X120 hx hZ hown (host := "") (Or.inl (own_w hw 184 rfl)) Via.refl e120 f123 (g := (mkF m 24 #[.val (.ref a1), .val (.ref a2), .val (.ref a3), .val (.int (0 : Int32)), .unset, .unset, .unset] [(.ref a1), (.int (0 : Int32))])) rfl rfl (hb hby d11_24)
 have f125 := (f112.wr W120 g1)
 have f126 := ((q104_F0.wr W109).wr W120)
 have f127 := ((q104_F1.other W109 (Or.inl (Ne.symm ne_a1_x105))).other W120 (Or.inl (Ne.symm ne_a1_x105)))
 have f128 := ((q104_F2.other W109 (Or.inl (Ne.symm ne_a1_x105))).other W120 (Or.inl (Ne.symm ne_a1_x105)))
 obtain ⟨cq129, kq129, q129a, q129b, q129c⟩ := isOf hZ e124 f126
 obtain ⟨_, _, ⟨T129, L129, k129, n129⟩, -, X129, ⟨Lc129, hQ129, l129, y129, z129⟩, st129⟩ := X124.interfaceBack hx (xi := (⟨"java/util/List", "size", "()I"⟩ : MethodName)) (y := (⟨"java/util/ImmutableCollections$List12", "size", "()I"⟩ : MethodName)) hown (mvT hZ (own_w hw 192 rfl)) (mvT hZ (own_w hw 193 rfl)) (mvT hZ (own_w hw 194 rfl)) (mvT hZ (own_w hw 195 rfl)) (mvT hZ (own_w hw 196 rfl)) (mvT hZ (own_w hw 197 rfl)) (mvT hZ (own_w hw 198 rfl)) (mvT hZ (own_w hw 199 rfl)) (by decide) (backOf (W := 1) (rm25 l Z a0 hw [] x105 x0 x1 de kde el ea kea em mr h120 n0 (Nat.le_trans Z0 K121.1) f125 G f126 f127 f128 gx) hZ (own_w hw 200 rfl) (own_w hw 157 rfl) (by decide) (by decide)) q129a q129b q129c (g := (mkF m 27 #[.val (.ref a1), .val (.ref a2), .val (.ref a3), .val (.int (0 : Int32)), .unset, .unset, .unset] [(.ref x105), (.int (0 : Int32))])) rfl (by rw [hml]; rfl) (Steps.refl _) (argsL := []) (rest := [(.int (0 : Int32))]) (lenOf pd13 rfl) rfl (by show 2 * 0 + _ ≤ _; exact Nat.le_of_eq rfl) (hb hby d11_27) (fun _ _ => ⟨rfl, e124, (by decide : 2 + 0 ≤ _), (by decide : 4 + 0 ≤ _)⟩)
 dsimp only [Pt.U, Pt.locs, Pt.cells, Pt.slots] at X129 l129 y129 z129 st129 hQ129
 subst l129 y129 z129
 obtain ⟨rfl, N129q, q129_hh⟩ := hQ129
 have N129 := Fr.app N120 N129q
 have p130 : Go p.tables e below _ (T129.setTop (mkF m 36 #[.val (.ref a1), .val (.ref a2), .val (.ref a3), .val (.int (0 : Int32)), .unset, .unset, .unset] [(.ref a1)])) := fun t_ k_ => (gcT (gc p122 st124) st129) t_ (by
  refine XS.icmpNo X129.here hx rfl (hb hby d11_32) rfl (tlt (by decide : ((0 : Int32) < (2 : Int32)))).2.1 ?_
  refine XS.aloadN X129.here hx rfl (hb hby d11_35) rfl rfl ?_
  exact k_)
 obtain ⟨T131, X131, e131, st131⟩ := getF X129 hx hZ hown (host := "") (Or.inl (own_w hw 184 rfl)) Via.refl q129_hh f123 (g := (mkF m 36 #[.val (.ref a1), .val (.ref a2), .val (.ref a3), .val (.int (0 : Int32)), .unset, .unset, .unset] [(.ref a1)])) rfl rfl (hb hby d11_36)
 have p132 : Go p.tables e below _ (T131.setTop (mkF m 40 #[.val (.ref a1), .val (.ref a2), .val (.ref a3), .val (.int (0 : Int32)), .unset, .unset, .unset] [(.int (0 : Int32)), (.ref x105)])) := fun t_ k_ => (gc p130 st131) t_ (by
  refine XS.iloadN X131.here hx rfl (hb hby d11_39) rfl ?_
  exact k_)
 obtain ⟨cq133, kq133, q133a, q133b, q133c⟩ := isOf hZ e131 f126
 obtain ⟨_, _, ⟨T133, L133, k133, n133⟩, -, X133, ⟨Lc133, hQ133, l133, y133, z133⟩, st133⟩ := X131.interfaceBack hx (xi := (⟨"java/util/List", "get", "(I)Ljava/lang/Object;"⟩ : MethodName)) (y := (⟨"java/util/ImmutableCollections$List12", "get", "(I)Ljava/lang/Object;"⟩ : MethodName)) hown (mvT hZ (own_w hw 202 rfl)) (mvT hZ (own_w hw 203 rfl)) (mvT hZ (own_w hw 204 rfl)) (mvT hZ (own_w hw 205 rfl)) (mvT hZ (own_w hw 206 rfl)) (mvT hZ (own_w hw 207 rfl)) (mvT hZ (own_w hw 208 rfl)) (mvT hZ (own_w hw 199 rfl)) (by decide) (backOf (W := 0) (rm26_0 l Z a0 hw [] x105 x0 x1 de kde el ea kea em mr h120 n0 (Nat.le_trans Z0 K121.1) f125 G f126 f127 f128 gx) hZ (own_w hw 209 rfl) (own_w hw 157 rfl) (by decide) (by decide)) q133a q133b q133c (g := (mkF m 40 #[.val (.ref a1), .val (.ref a2), .val (.ref a3), .val (.int (0 : Int32)), .unset, .unset, .unset] [(.int (0 : Int32)), (.ref x105)])) rfl (by rw [hml]; rfl) (Steps.refl _) (argsL := [(.int (0 : Int32))]) (rest := []) (lenOf pd15 rfl) rfl (by show 2 * 0 + _ ≤ _; exact Nat.le_of_eq rfl) (hb hby d11_40) (fun _ _ => ⟨rfl, e131, (by decide : 2 + 0 ≤ _), (by decide : 4 + 0 ≤ _)⟩)
 dsimp only [Pt.U, Pt.locs, Pt.cells, Pt.slots] at X133 l133 y133 z133 st133 hQ133
 subst l133 y133 z133
 obtain ⟨rfl, N133q, q133_hh⟩ := hQ133
 have N133 := Fr.app N129 N133q
 have f134 := (((D2.keep q104_K).wr W109).wr W120)
 obtain ⟨T135, X135, e135, st135⟩ := castY X133 hx hZ hown (own_w hw 210 rfl) q133_hh (Ins.self f134) (g := (mkF m 45 #[.val (.ref a1), .val (.ref a2), .val (.ref a3), .val (.int (0 : Int32)), .unset, .unset, .unset] [(.ref x0)])) rfl rfl (hb hby d11_45)
 have f136 := (((D4.keep q104_K nin0).other W109 (Or.inl (Ne.symm nx0))).other W120 (Or.inl (Ne.symm nx0)))
 obtain ⟨cq137, kq137, q137a, q137b, q137c⟩ := isOf hZ e135 f134
 obtain ⟨_, _, ⟨T137, L137, k137, n137⟩, -, X137, ⟨Lc137, hQ137, l137, y137, z137⟩, st137⟩ := X135.virtualBack hx (y := (⟨"com/example/arcward/arcward/model/Variable", "index", "()I"⟩ : MethodName)) (z := (⟨"com/example/arcward/arcward/model/Variable", "index", "()I"⟩ : MethodName)) hown (mvT hZ (own_w hw 212 rfl)) (mvT hZ (own_w hw 213 rfl)) (notFace_of_selects (args := #[]) (mvT hZ (own_w hw 215 rfl))) (mvT hZ (own_w hw 215 rfl)) (mvT hZ (own_w hw 214 rfl)) (by decide) (backOf (W := 0) (rm27 l Z a0 hw [] x0 (0 : Int32) h120 n0 (Nat.le_trans Z0 K121.1) f136) hZ (own_w hw 216 rfl) (own_w hw 28 rfl) (by decide) (by decide)) q137a q137c (g := (mkF m 48 #[.val (.ref a1), .val (.ref a2), .val (.ref a3), .val (.int (0 : Int32)), .unset, .unset, .unset] [(.ref x0)])) rfl (by rw [hml]; rfl) (Steps.refl _) (argsL := []) (rest := []) (lenOf pd13 rfl) rfl (by show 2 * 0 + _ ≤ _; exact Nat.le_of_eq rfl) (hb hby d11_48) (fun _ _ => ⟨rfl, e135, (by decide : 2 + 0 ≤ _), (by decide : 4 + 0 ≤ _)⟩)
 dsimp only [Pt.U, Pt.locs, Pt.cells, Pt.slots] at X137 l137 y137 z137 st137 hQ137
 subst l137 y137 z137
 obtain ⟨rfl, N137q, q137_hh⟩ := hQ137
 have N137 := Fr.app N133 N137q
 have p138 : Go p.tables e below _ (T137.setTop (mkF m 24 #[.val (.ref a1), .val (.ref a2), .val (.ref a3), .val (.int (1 : Int32)), .unset, .unset, .unset] [(.ref a1), (.int (1 : Int32))])) := fun t_ k_ => (gcT (gc (gcT p132 st133) st135) st137) t_ (by
  refine XS.iloadN X137.here hx rfl (hb hby d11_51) rfl ?_
  refine XS.icmpYes X137.here hx rfl (pc0 := 52) (pc' := 98) rfl (hb hby d11_52) rfl (teq (by decide : ((0 : Int32) = (0 : Int32)))).1 (by decide) (by decide) ?_
  refine XS.iinc X137.here hx rfl (hb hby d11_98) rfl (l' := #[.val (.ref a1), .val (.ref a2), .val (.ref a3), .val (.int (1 : Int32)), .unset, .unset, .unset]) rfl ?_
  refine XS.goto X137.here hx rfl (pc0 := 101) (pc' := 22) rfl (hb hby d11_101) (by decide) (by decide) ?_
  refine XS.iloadN X137.here hx rfl (hb hby d11_22) rfl ?_
  refine XS.aloadN X137.here hx rfl (hb hby d11_23) rfl rfl ?_
  exact k_)
 obtain ⟨T139, X139, e139, st139⟩ := getF X137 hx hZ hown (host := "") (Or.inl (own_w hw 184 rfl)) Via.refl q137_hh f123 (g := (mkF m 24 #[.val (.ref a1), .val (.ref a2), .val (.ref a3), .val (.int (1 : Int32)), .unset, .unset, .unset] [(.ref a1), (.int (1 : Int32))])) rfl rfl (hb hby d11_24)
 obtain ⟨cq140, kq140, q140a, q140b, q140c⟩ := isOf hZ e139 f126
 obtain ⟨_, _, ⟨T140, L140, k140, n140⟩, -, X140, ⟨Lc140, hQ140, l140, y140, z140⟩, st140⟩ := X139.interfaceBack hx (xi := (⟨"java/util/List", "size", "()I"⟩ : MethodName)) (y := (⟨"java/util/ImmutableCollections$List12", "size", "()I"⟩ : MethodName)) hown (mvT hZ (own_w hw 192 rfl)) (mvT hZ (own_w hw 193 rfl)) (mvT hZ (own_w hw 194 rfl)) (mvT hZ (own_w hw 195 rfl)) (mvT hZ (own_w hw 196 rfl)) (mvT hZ (own_w hw 197 rfl)) (mvT hZ (own_w hw 198 rfl)) (mvT hZ (own_w hw 199 rfl)) (by decide) (backOf (W := 1) (rm25 l Z a0 hw [] x105 x0 x1 de kde el ea kea em mr h120 n0 (Nat.le_trans Z0 K121.1) f125 G f126 f127 f128 gx) hZ (own_w hw 200 rfl) (own_w hw 157 rfl) (by decide) (by decide)) q140a q140b q140c (g := (mkF m 27 #[.val (.ref a1), .val (.ref a2), .val (.ref a3), .val (.int (1 : Int32)), .unset, .unset, .unset] [(.ref x105), (.int (1 : Int32))])) rfl (by rw [hml]; rfl) (Steps.refl _) (argsL := []) (rest := [(.int (1 : Int32))]) (lenOf pd13 rfl) rfl (by show 2 * 0 + _ ≤ _; exact Nat.le_of_eq rfl) (hb hby d11_27) (fun _ _ => ⟨rfl, e139, (by decide : 2 + 0 ≤ _), (by decide : 4 + 0 ≤ _)⟩)
 dsimp only [Pt.U, Pt.locs, Pt.cells, Pt.slots] at X140 l140 y140 z140 st140 hQ140
 subst l140 y140 z140
 obtain ⟨rfl, N140q, q140_hh⟩ := hQ140
 have N140 := Fr.app N137 N140q
 have p141 : Go p.tables e below _ (T140.setTop (mkF m 36 #[.val (.ref a1), .val (.ref a2), .val (.ref a3), .val (.int (1 : Int32)), .unset, .unset, .unset] [(.ref a1)])) := fun t_ k_ => (gcT (gc p138 st139) st140) t_ (by
  refine XS.icmpNo X140.here hx rfl (hb hby d11_32) rfl (tlt (by decide : ((1 : Int32) < (2 : Int32)))).2.1 ?_
  refine XS.aloadN X140.here hx rfl (hb hby d11_35) rfl rfl ?_
  exact k_)
 obtain ⟨T142, X142, e142, st142⟩ := getF X140 hx hZ hown (host := "") (Or.inl (own_w hw 184 rfl)) Via.refl q140_hh f123 (g := (mkF m 36 #[.val (.ref a1), .val (.ref a2), .val (.ref a3), .val (.int (1 : Int32)), .unset, .unset, .unset] [(.ref a1)])) rfl rfl (hb hby d11_36)
 have p143 : Go p.tables e below _ (T142.setTop (mkF m 40 #[.val (.ref a1), .val (.ref a2), .val (.ref a3), .val (.int (1 : Int32)), .unset, .unset, .unset] [(.int (1 : Int32)), (.ref x105)])) := fun t_ k_ => (gc p141 st142) t_ (by
  refine XS.iloadN X142.here hx rfl (hb hby d11_39) rfl ?_
  exact k_)
 obtain ⟨cq144, kq144, q144a, q144b, q144c⟩ := isOf hZ e142 f126
 obtain ⟨_, _, ⟨T144, L144, k144, n144⟩, -, X144, ⟨Lc144, hQ144, l144, y144, z144⟩, st144⟩ := X142.interfaceBack hx (xi := (⟨"java/util/List", "get", "(I)Ljava/lang/Object;"⟩ : MethodName)) (y := (⟨"java/util/ImmutableCollections$List12", "get", "(I)Ljava/lang/Object;"⟩ : MethodName)) hown (mvT hZ (own_w hw 202 rfl)) (mvT hZ (own_w hw 203 rfl)) (mvT hZ (own_w hw 204 rfl)) (mvT hZ (own_w hw 205 rfl)) (mvT hZ (own_w hw 206 rfl)) (mvT hZ (own_w hw 207 rfl)) (mvT hZ (own_w hw 208 rfl)) (mvT hZ (own_w hw 199 rfl)) (by decide) (backOf (W := 0) (rm26_1 l Z a0 hw [] x105 x0 x1 de kde el ea kea em mr h120 n0 (Nat.le_trans Z0 K121.1) f125 G f126 f127 f128 gx) hZ (own_w hw 209 rfl) (own_w hw 157 rfl) (by decide) (by decide)) q144a q144b q144c (g := (mkF m 40 #[.val (.ref a1), .val (.ref a2), .val (.ref a3), .val (.int (1 : Int32)), .unset, .unset, .unset] [(.int (1 : Int32)), (.ref x105)])) rfl (by rw [hml]; rfl) (Steps.refl _) (argsL := [(.int (1 : Int32))]) (rest := []) (lenOf pd15 rfl) rfl (by show 2 * 0 + _ ≤ _; exact Nat.le_of_eq rfl) (hb hby d11_40) (fun _ _ => ⟨rfl, e142, (by decide : 2 + 0 ≤ _), (by decide : 4 + 0 ≤ _)⟩)
 dsimp only [Pt.U, Pt.locs, Pt.cells, Pt.slots] at X144 l144 y144 z144 st144 hQ144
 subst l144 y144 z144
 obtain ⟨rfl, N144q, q144_hh⟩ := hQ144
 have N144 := Fr.app N140 N144q
 have f145 := (((D3.keep q104_K).wr W109).wr W120)
 obtain ⟨T146, X146, e146, st146⟩ := castY X144 hx hZ hown (own_w hw 210 rfl) q144_hh (Ins.self f145) (g := (mkF m 45 #[.val (.ref a1), .val (.ref a2), .val (.ref a3), .val (.int (1 : Int32)), .unset, .unset, .unset] [(.ref x1)])) rfl rfl (hb hby d11_45)
 have f147 := (((D5.keep q104_K nin0).other W109 (Or.inl (Ne.symm nx1))).other W120 (Or.inl (Ne.symm nx1)))
 obtain ⟨cq148, kq148, q148a, q148b, q148c⟩ := isOf hZ e146 f145
 obtain ⟨_, _, ⟨T148, L148, k148, n148⟩, -, X148, ⟨Lc148, hQ148, l148, y148, z148⟩, st148⟩ := X146.virtualBack hx (y := (⟨"com/example/arcward/arcward/model/Variable", "index", "()I"⟩ : MethodName)) (z := (⟨"com/example/arcward/arcward/model/Variable", "index", "()I"⟩ : MethodName)) hown (mvT hZ (own_w hw 212 rfl)) (mvT hZ (own_w hw 213 rfl)) (notFace_of_selects (args := #[]) (mvT hZ (own_w hw 215 rfl))) (mvT hZ (own_w hw 215 rfl)) (mvT hZ (own_w hw 214 rfl)) (by decide) (backOf (W := 0) (rm27 l Z a0 hw [] x1 (1 : Int32) h120 n0 (Nat.le_trans Z0 K121.1) f147) hZ (own_w hw 216 rfl) (own_w hw 28 rfl) (by decide) (by decide)) q148a q148c (g := (mkF m 48 #[.val (.ref a1), .val (.ref a2), .val (.ref a3), .val (.int (1 : Int32)), .unset, .unset, .unset] [(.ref x1)])) rfl (by rw [hml]; rfl) (Steps.refl _) (argsL := []) (rest := []) (lenOf pd13 rfl) rfl (by show 2 * 0 + _ ≤ _; exact Nat.le_of_eq rfl) (hb hby d11_48) (fun _ _ => ⟨rfl, e146, (by decide : 2 + 0 ≤ _), (by decide : 4 + 0 ≤ _)⟩)
 dsimp only [Pt.U, Pt.locs, Pt.cells, Pt.slots] at X148 l148 y148 z148 st148 hQ148
 subst l148 y148 z148
 obtain ⟨rfl, N148q, q148_hh⟩ := hQ148
 have N148 := Fr.app N144 N148q
 have p149 : Go p.tables e below _ (T148.setTop (mkF m 24 #[.val (.ref a1), .val (.ref a2), .val (.ref a3), .val (.int (2 : Int32)), .unset, .unset, .unset] [(.ref a1), (.int (2 : Int32))])) := fun t_ k_ => (gcT (gc (gcT p143 st144) st146) st148) t_ (by
  refine XS.iloadN X148.here hx rfl (hb hby d11_51) rfl ?_
  refine XS.icmpYes X148.here hx rfl (pc0 := 52) (pc' := 98) rfl (hb hby d11_52) rfl (teq (by decide : ((1 : Int32) = (1 : Int32)))).1 (by decide) (by decide) ?_
  refine XS.iinc X148.here hx rfl (hb hby d11_98) rfl (l' := #[.val (.ref a1), .val (.ref a2), .val (.ref a3), .val (.int (2 : Int32)), .unset, .unset, .unset]) rfl ?_
  refine XS.goto X148.here hx rfl (pc0 := 101) (pc' := 22) rfl (hb hby d11_101) (by decide) (by decide) ?_
  refine XS.iloadN X148.here hx rfl (hb hby d11_22) rfl ?_
  refine XS.aloadN X148.here hx rfl (hb hby d11_23) rfl rfl ?_
  exact k_)
 obtain ⟨T150, X150, e150, st150⟩ := getF X148 hx hZ hown (host := "") (Or.inl (own_w hw 184 rfl)) Via.refl q148_hh f123 (g := (mkF m 24 #[.val (.ref a1), .val (.ref a2), .val (.ref a3), .val (.int (2 : Int32)), .unset, .unset, .unset] [(.ref a1), (.int (2 : Int32))])) rfl rfl (hb hby d11_24)
 obtain ⟨cq151, kq151, q151a, q151b, q151c⟩ := isOf hZ e150 f126
 obtain ⟨_, _, ⟨T151, L151, k151, n151⟩, -, X151, ⟨Lc151, hQ151, l151, y151, z151⟩, st151⟩ := X150.interfaceBack hx (xi := (⟨"java/util/List", "size", "()I"⟩ : MethodName)) (y := (⟨"java/util/ImmutableCollections$List12", "size", "()I"⟩ : MethodName)) hown (mvT hZ (own_w hw 192 rfl)) (mvT hZ (own_w hw 193 rfl)) (mvT hZ (own_w hw 194 rfl)) (mvT hZ (own_w hw 195 rfl)) (mvT hZ (own_w hw 196 rfl)) (mvT hZ (own_w hw 197 rfl)) (mvT hZ (own_w hw 198 rfl)) (mvT hZ (own_w hw 199 rfl)) (by decide) (backOf (W := 1) (rm25 l Z a0 hw [] x105 x0 x1 de kde el ea kea em mr h120 n0 (Nat.le_trans Z0 K121.1) f125 G f126 f127 f128 gx) hZ (own_w hw 200 rfl) (own_w hw 157 rfl) (by decide) (by decide)) q151a q151b q151c (g := (mkF m 27 #[.val (.ref a1), .val (.ref a2), .val (.ref a3), .val (.int (2 : Int32)), .unset, .unset, .unset] [(.ref x105), (.int (2 : Int32))])) rfl (by rw [hml]; rfl) (Steps.refl _) (argsL := []) (rest := [(.int (2 : Int32))]) (lenOf pd13 rfl) rfl (by show 2 * 0 + _ ≤ _; exact Nat.le_of_eq rfl) (hb hby d11_27) (fun _ _ => ⟨rfl, e150, (by decide : 2 + 0 ≤ _), (by decide : 4 + 0 ≤ _)⟩)
 dsimp only [Pt.U, Pt.locs, Pt.cells, Pt.slots] at X151 l151 y151 z151 st151 hQ151
 subst l151 y151 z151
 obtain ⟨rfl, N151q, q151_hh⟩ := hQ151
 have N151 := Fr.app N148 N151q
 have p152 : Go p.tables e below _ (T151.setTop (mkF m 105 #[.val (.ref a1), .val (.ref a2), .val (.ref a3), .val (.int (2 : Int32)), .unset, .unset, .unset] [(.ref a1)])) := fun t_ k_ => (gcT (gc p149 st150) st151) t_ (by
  refine XS.icmpYes X151.here hx rfl (pc0 := 32) (pc' := 104) rfl (hb hby d11_32) rfl (flt (by decide : ¬ ((2 : Int32) < (2 : Int32)))).2.1 (by decide) (by decide) ?_
  refine XS.aloadN X151.here hx rfl (hb hby d11_104) rfl rfl ?_
  exact k_)
 obtain ⟨T153, X153, e153, st153⟩ := getF X151 hx hZ hown (host := "") (Or.inl (own_w hw 190 rfl)) Via.refl q151_hh F120 (g := (mkF m 105 #[.val (.ref a1), .val (.ref a2), .val (.ref a3), .val (.int (2 : Int32)), .unset, .unset, .unset] [(.ref a1)])) rfl rfl (hb hby d11_105)
 have f154 := (f119.wr W120)
 have f155 := (((A0.keep q104_K).wr W109).wr W120)
 have f156 := (((D0.keep q104_K nin0).other W109 (Ne.symm ned)).other W120 (Ne.symm ned))
 have f157 := (((D1.keep q104_K).wr W109).wr W120)
 have f158 := (f113.wr W120)
 obtain ⟨cq159, kq159, q159a, q159b, q159c⟩ := isOf hZ e153 (G.2.2.2.2.1.ext f125.2)
 obtain ⟨_, _, ⟨T159, L159, k159, n159⟩, -, X159, ⟨Lc159, hQ159, l159, y159, z159⟩, st159⟩ := X153.interfaceBack hx (xi := (⟨"java/util/List", "iterator", "()Ljava/util/Iterator;"⟩ : MethodName)) (y := (⟨"java/util/ImmutableCollections$AbstractImmutableList", "iterator", "()Ljava/util/Iterator;"⟩ : MethodName)) hown (mvT hZ (own_w hw 217 rfl)) (mvT hZ (own_w hw 218 rfl)) (mvT hZ (own_w hw 219 rfl)) (mvT hZ (own_w hw 220 rfl)) (mvT hZ (own_w hw 221 rfl)) (mvT hZ (own_w hw 222 rfl)) (mvT hZ (own_w hw 223 rfl)) (mvT hZ (own_w hw 224 rfl)) (by decide) (backOf (W := 0) (rm28 l Z a0 hw [] de kde el ea kea em mr h120 n0 (Nat.le_trans Z0 K121.1) f125 G) hZ (own_w hw 225 rfl) (own_w hw 166 rfl) (by decide) (by decide)) q159a q159b q159c (g := (mkF m 108 #[.val (.ref a1), .val (.ref a2), .val (.ref a3), .val (.int (2 : Int32)), .unset, .unset, .unset] [(.ref el)])) rfl (by rw [hml]; rfl) (Steps.refl _) (argsL := []) (rest := []) (lenOf pd16 rfl) rfl (by show 2 * 0 + _ ≤ _; exact Nat.le_of_eq rfl) (hb hby d11_108) (fun _ _ => ⟨rfl, e153, (by decide : 2 + 1 ≤ _), (by decide : 4 + 4 ≤ _)⟩)
 dsimp only [Pt.U, Pt.locs, Pt.cells, Pt.slots] at X159 l159 y159 z159 st159 hQ159
 subst l159 y159 z159
 obtain ⟨x160, rfl, N159q, q159_K, q159_F0, q159_F1, q159_F2, q159_F3, q159_F4, q159_g, q159_z⟩ := hQ159
 have N159 := Fr.app N151 N159q
 have K161 : Keep h0 T159.heap [a1] := K121.trans q159_K all0
 have ne_a1_x160 : a1 ≠ x160 := Nat.ne_of_lt (Nat.lt_of_lt_of_le f154.lt q159_z)
 have ne_a2_x160 : a2 ≠ x160 := Nat.ne_of_lt (Nat.lt_of_lt_of_le f155.lt q159_z)
 have ne_ed_x160 : ed ≠ x160 := Nat.ne_of_lt (Nat.lt_of_lt_of_le f156.lt q159_z)
 have ne_x0_x160 : x0 ≠ x160 := Nat.ne_of_lt (Nat.lt_of_lt_of_le f134.lt q159_z)
 have ne_x1_x160 : x1 ≠ x160 := Nat.ne_of_lt (Nat.lt_of_lt_of_le f145.lt q159_z)
 have ne_a3_x160 : a3 ≠ x160 := Nat.ne_of_lt (Nat.lt_of_lt_of_le f158.lt q159_z)
 have ne_x105_x160 : x105 ≠ x160 := Nat.ne_of_lt (Nat.lt_of_lt_of_le f126.lt q159_z)
 have p162 : Go p.tables e below _ (T159.setTop (mkF m 115 #[.val (.ref a1), .val (.ref a2), .val (.ref a3), .val (.ref x160), .unset, .unset, .unset] [(.ref x160)])) := fun t_ k_ => (gcT (gc p152 st153) st159) t_ (by
  refine XS.astoreN X159.here hx rfl (hb hby d11_113) rfl rfl (l' := #[.val (.ref a1), .val (.ref a2), .val (.ref a3), .val (.ref x160), .unset, .unset, .unset]) rfl ?_
  refine XS.aloadN X159.here hx rfl (hb hby d11_114) rfl rfl ?_
  exact k_)
 obtain ⟨cq163, kq163, q163a, q163b, q163c⟩ := isOf hZ rfl q159_F0
 obtain ⟨_, _, ⟨T163, L163, k163, n163⟩, -, X163, ⟨Lc163, hQ163, l163, y163, z163⟩, st163⟩ := X159.interfaceBack hx (xi := (⟨"java/util/Iterator", "hasNext", "()Z"⟩ : MethodName)) (y := (⟨"java/util/ImmutableCollections$ListItr", "hasNext", "()Z"⟩ : MethodName)) hown (mvT hZ (own_w hw 251 rfl)) (mvT hZ (own_w hw 252 rfl)) (mvT hZ (own_w hw 253 rfl)) (mvT hZ (own_w hw 254 rfl)) (mvT hZ (own_w hw 255 rfl)) (mvT hZ (own_w hw 256 rfl)) (mvT hZ (own_w hw 257 rfl)) (mvT hZ (own_w hw 258 rfl)) (by decide) (backOf (W := 0) (rm31 l Z a0 hw [] x160 T159.heap n0 (Nat.le_trans Z0 K161.1) q159_F2 q159_F3) hZ (own_w hw 259 rfl) (own_w hw 228 rfl) (by decide) (by decide)) q163a q163b q163c (g := (mkF m 115 #[.val (.ref a1), .val (.ref a2), .val (.ref a3), .val (.ref x160), .unset, .unset, .unset] [(.ref x160)])) rfl (by rw [hml]; rfl) (Steps.refl _) (argsL := []) (rest := []) (lenOf pd9 rfl) rfl (by show 2 * 0 + _ ≤ _; exact Nat.le_of_eq rfl) (hb hby d11_115) (fun _ _ => ⟨rfl, rfl, (by decide : 3 + 0 ≤ _), (by decide : 8 + 0 ≤ _)⟩)
 dsimp only [Pt.U, Pt.locs, Pt.cells, Pt.slots] at X163 l163 y163 z163 st163 hQ163
 subst l163 y163 z163
 obtain ⟨rfl, N163q, q163_hh⟩ := hQ163
 have N163 := Fr.app N159 N163q
 have p164 : Go p.tables e below _ (T163.setTop (mkF m 219 #[.val (.ref a1), .val (.ref a2), .val (.ref a3), .val (.ref x160), .unset, .unset, .unset] [])) := fun t_ k_ => (gcT p162 st163) t_ (by
  refine XS.ifYes X163.here hx rfl (pc0 := 120) (pc' := 219) rfl (hb hby d11_120) rfl ((if0 _ _).trans (teq (by decide : ((0 : Int32) = (0 : Int32)))).1) (by decide) (by decide) ?_
  exact k_)
 have f165 := (f154.keep q159_K)
 have f166 := (f123.keep q159_K nin0)
 have f167 := (F120.keep q159_K nin0)
 have f168 := (f126.keep q159_K)
 have f169 := (f127.keep q159_K nin0)
 have f170 := (f128.keep q159_K nin0)
 obtain ⟨fs, hr, hrun, hended, hW, hsame⟩ := X163.leave (v := none) (fun _ => rfl)
 refine ⟨_, _, p164 _ (X163.returnOut hx Bd.returns (hb hby d11_219) hr), hrun, hended, _, _, rfl, ?_, ⟨_, rfl⟩, hW, hsame.mono (by decide) (by decide)⟩
 show Q11 Z a1 a2 a3 mc me ed kd x0 x1 de kde el ea kea em mr h0 n0 _ T163.heap _
 rw [q163_hh]
 exact ⟨x105, rfl, N163, K161, f165, f166, f167, f168, f169, f170, q104_g, (Nat.le_trans (Keep.refl h0 [a1]).1 q104_z), ne_a1_x105⟩
theorem d33_0 : decode prog_11_method_2_code 0 = .ok (.aload_n 0, 1) := by decide +kernel
theorem d33_1 : decode prog_11_method_2_code 1 = .ok (.getfield 13, 3) := by decide +kernel
theorem d33_4 : decode prog_11_method_2_code 4 = .ok (.areturn, 1) := by decide +kernel
theorem pn33 : plainFor (⟨"com/example/arcward/arcward/model/Instance", "variables", "()Ljava/util/List;"⟩ : MethodName) = true := plainFor_of_name (by first | (simp [plainName, overriddenIn]; done) | decide +kernel)
theorem ef_rm33 (m : MethodId) (a1 : Addr) (vr : Addr) : entryFrame m #[(.ref a1)] 1 = mkF m 0 #[.val (.ref a1)] [] := by first | (simp [entryFrame, mkF, argsToLocals, Value.category]; done) | rfl
def Q33 (Z : State) (a1 : Addr) (vr : Addr) (h0 : Heap) (n0 : Nat) (v : Option Value) (h : Heap) (L : List Loc) : Prop := v = some (.ref vr) ∧ Fr n0 L ∧ (h = h0)
set_option maxRecDepth 65536 in
set_option maxHeartbeats 40000000 in
theorem rm33 (l : Launch) (Z : State) (a0 : Array Value) (hw : ∀ d ∈ tables_1, d.before a0 Z = true) (ws : List Jvm.Cond) (a1 : Addr) (vr : Addr) (h0 : Heap) (n0 : Nat) (Z0 : n0 ≤ h0.size) (F1 : Fld Z h0 a1 "com/example/arcward/arcward/model/Instance" "variables" "Ljava/util/List;" (.ref vr)) :
  MetFree l (⟨"com/example/arcward/arcward/model/Instance", "variables", "()Ljava/util/List;"⟩ : MethodName) (head1 (Jvm.Cond.code (⟨"com/example/arcward/arcward/model/Instance", "variables", "()Ljava/util/List;"⟩ : MethodName) prog_11_method_2_code 1 (some (.object "java/util/List")) :: ws) ({ frames := 0, cells := 0, slots := 0, locals := 0 } : Room)) (fun a U => a = #[(.ref a1)] ∧ Z.Warmed39 U.vm ∧ U.heap = h0) (fun _ _ _ _ _ => True) (fun _ U o U' => ∃ v L, o = .returned v ∧ Q33 Z a1 vr h0 n0 v U'.heap L ∧ FrameEnd U o U' L ({ frames := 0, cells := 0, slots := 0, locals := 0 } : Room).cells ({ frames := 0, cells := 0, slots := 0, locals := 0 } : Room).slots) := by
 refine MetFree.of_bodySF pn33 hisR ?_
 intro p e s m args below meth c s₁ Bd hml0 hP hK
 obtain ⟨rfl, hZ, hh⟩ := hP
 have hx := Bd.exec
 have hby := Bd.bytes
 have hml : c.maxLocals = 1 := hml0
 have hown : s.vm.findClass "com/example/arcward/arcward/model/Instance" = some m.cls := findClass_of_methodNamed Bd.named
 have hnm := (name_of_methodNamed Bd.named Bd.method).1
 have X0 : Stand p l e ({ frames := 0, cells := 0, slots := 0, locals := 0 } : Room) s m #[(.ref a1)] below meth c s₁ [] 0 0 := Stand.of_body Bd
 have e0 : s₁.heap = h0 := by rw [← hh, Bd.state]; rfl
 have N0 := Fr.nil n0
 have p0 : Go p.tables e below (s₁.setTop (entryFrame m #[(.ref a1)] 1)) (s₁.setTop (mkF m 0 #[.val (.ref a1)] [])) := fun t_ k_ => castTop (ef_rm33 m a1 vr) k_
 have p101 : Go p.tables e below _ (s₁.setTop (mkF m 1 #[.val (.ref a1)] [(.ref a1)])) := fun t_ k_ => p0 t_ (by
  refine XS.aloadN X0.here hx rfl (hb hby d33_0) rfl rfl ?_
  exact k_)
 obtain ⟨T102, X102, e102, st102⟩ := getF X0 hx hZ hown (host := "") (Or.inl (own_w hw 184 rfl)) Via.refl e0 F1 (g := (mkF m 1 #[.val (.ref a1)] [(.ref a1)])) rfl rfl (hb hby d33_1)
 obtain ⟨fs, hr, hrun, hended, hW, hsame⟩ := X102.leave (v := some (.ref vr)) (fun h => by rw [Bd.returns] at h; cases h)
 refine ⟨_, _, (gc p101 st102) _ (retOut X102 hx (w := (.ref vr)) (i := .areturn) Bd.returns rfl (Or.inr (Or.inr (Or.inr (Or.inr ⟨rfl, rfl, rfl⟩)))) (hb hby d33_4) hr), hrun, hended, _, _, rfl, ?_, ⟨_, rfl⟩, hW, hsame.mono (by decide) (by decide)⟩
 show Q33 Z a1 vr h0 n0 _ T102.heap _
 rw [e102]
 exact ⟨rfl, N0, rfl⟩
theorem d34_0 : decode prog_43_method_4_code 0 = .ok (.aload_n 0, 1) := by decide +kernel
theorem d34_1 : decode prog_43_method_4_code 1 = .ok (.getfield 32, 3) := by decide +kernel
theorem d34_4 : decode prog_43_method_4_code 4 = .ok (.arraylength, 1) := by decide +kernel
theorem d34_5 : decode prog_43_method_4_code 5 = .ok (.ireturn, 1) := by decide +kernel
theorem pn34 : plainFor (⟨"com/example/arcward/arcward/model/Variable", "size", "()I"⟩ : MethodName) = true := plainFor_of_name (by first | (simp [plainName, overriddenIn]; done) | decide +kernel)
theorem ef_rm34_2 (m : MethodId) (a1 : Addr) (va : Addr) (ka : ClassId) (vv : List Value) : entryFrame m #[(.ref a1)] 1 = mkF m 0 #[.val (.ref a1)] [] := by first | (simp [entryFrame, mkF, argsToLocals, Value.category]; done) | rfl
def Q34_2 (Z : State) (a1 : Addr) (va : Addr) (ka : ClassId) (vv : List Value) (h0 : Heap) (n0 : Nat) (v : Option Value) (h : Heap) (L : List Loc) : Prop := v = some (.int (2 : Int32)) ∧ Fr n0 L ∧ (h = h0)
set_option maxRecDepth 65536 in
set_option maxHeartbeats 40000000 in
theorem rm34_2 (l : Launch) (Z : State) (a0 : Array Value) (hw : ∀ d ∈ tables_1, d.before a0 Z = true) (ws : List Jvm.Cond) (a1 : Addr) (va : Addr) (ka : ClassId) (vv : List Value) (h0 : Heap) (n0 : Nat) (Z0 : n0 ≤ h0.size) (F1 : Fld Z h0 a1 "com/example/arcward/arcward/model/Variable" "values" "[I" (.ref va)) (V1 : Arv Z h0 va ka .int (2 : Int32) vv (.int (0 : Int32))) :
  MetFree l (⟨"com/example/arcward/arcward/model/Variable", "size", "()I"⟩ : MethodName) (head1 (Jvm.Cond.code (⟨"com/example/arcward/arcward/model/Variable", "size", "()I"⟩ : MethodName) prog_43_method_4_code 1 (some .int) :: ws) ({ frames := 0, cells := 0, slots := 0, locals := 0 } : Room)) (fun a U => a = #[(.ref a1)] ∧ Z.Warmed39 U.vm ∧ U.heap = h0) (fun _ _ _ _ _ => True) (fun _ U o U' => ∃ v L, o = .returned v ∧ Q34_2 Z a1 va ka vv h0 n0 v U'.heap L ∧ FrameEnd U o U' L ({ frames := 0, cells := 0, slots := 0, locals := 0 } : Room).cells ({ frames := 0, cells := 0, slots := 0, locals := 0 } : Room).slots) := by
 refine MetFree.of_bodySF pn34 hisR ?_
 intro p e s m args below meth c s₁ Bd hml0 hP hK
 obtain ⟨rfl, hZ, hh⟩ := hP
 have hx := Bd.exec
 have hby := Bd.bytes
 have hml : c.maxLocals = 1 := hml0
 have hown : s.vm.findClass "com/example/arcward/arcward/model/Variable" = some m.cls := findClass_of_methodNamed Bd.named
 have hnm := (name_of_methodNamed Bd.named Bd.method).1
 have X0 : Stand p l e ({ frames := 0, cells := 0, slots := 0, locals := 0 } : Room) s m #[(.ref a1)] below meth c s₁ [] 0 0 := Stand.of_body Bd
 have e0 : s₁.heap = h0 := by rw [← hh, Bd.state]; rfl
 have N0 := Fr.nil n0
 have p0 : Go p.tables e below (s₁.setTop (entryFrame m #[(.ref a1)] 1)) (s₁.setTop (mkF m 0 #[.val (.ref a1)] [])) := fun t_ k_ => castTop (ef_rm34_2 m a1 va ka vv) k_
 have p101 : Go p.tables e below _ (s₁.setTop (mkF m 1 #[.val (.ref a1)] [(.ref a1)])) := fun t_ k_ => p0 t_ (by
  refine XS.aloadN X0.here hx rfl (hb hby d34_0) rfl rfl ?_
  exact k_)
 obtain ⟨T102, X102, e102, st102⟩ := getF X0 hx hZ hown (host := "") (Or.inl (own_w hw 55 rfl)) Via.refl e0 F1 (g := (mkF m 1 #[.val (.ref a1)] [(.ref a1)])) rfl rfl (hb hby d34_1)
 obtain ⟨cl103, Ar103, -, S103, Ng103, -, -⟩ := id V1
 have p104 : Go p.tables e below _ (T102.setTop (mkF m 5 #[.val (.ref a1)] [(.int (2 : Int32))])) := fun t_ k_ => (gc p101 st102) t_ (by
  refine X102.arraylength hx (by rw [e102]; exact Ar103.1) (State.isArrayOf_alike hZ.alike Ar103.2.1) (g := (mkF m 4 #[.val (.ref a1)] [(.ref va)])) rfl rfl (hb hby d34_4) _ ?_
  rw [len_of S103 Ng103]
  show Steps p.tables e below (T102.setTop (mkF m 5 #[.val (.ref a1)] [(.int (2 : Int32))])) _
  exact k_)
 obtain ⟨fs, hr, hrun, hended, hW, hsame⟩ := X102.leave (v := some (.int (2 : Int32))) (fun h => by rw [Bd.returns] at h; cases h)
 refine ⟨_, _, p104 _ (retI X102 hx Bd.returns (hb hby d34_5) hr), hrun, hended, _, _, rfl, ?_, ⟨_, rfl⟩, hW, hsame.mono (by decide) (by decide)⟩
 show Q34_2 Z a1 va ka vv h0 n0 _ T102.heap _
 rw [e102]
 exact ⟨rfl, N0, rfl⟩
theorem d35_0 : decode prog_50_method_12_code 0 = .ok (.iload_n 0, 1) := by decide +kernel
theorem d35_1 : decode prog_50_method_12_code 1 = .ok (.bipush 64, 2) := by decide +kernel
theorem d35_3 : decode prog_50_method_12_code 3 = .ok (.iadd, 1) := by decide +kernel
theorem d35_4 : decode prog_50_method_12_code 4 = .ok (.iconst 1, 1) := by decide +kernel
theorem d35_5 : decode prog_50_method_12_code 5 = .ok (.isub, 1) := by decide +kernel
theorem d35_6 : decode prog_50_method_12_code 6 = .ok (.bipush 64, 2) := by decide +kernel
theorem d35_8 : decode prog_50_method_12_code 8 = .ok (.idiv, 1) := by decide +kernel
theorem d35_9 : decode prog_50_method_12_code 9 = .ok (.ireturn, 1) := by decide +kernel
theorem pn35 : plainFor (⟨"com/example/arcward/arcward/solver/Domains", "wordsFor", "(I)I"⟩ : MethodName) = true := plainFor_of_name (by first | (simp [plainName, overriddenIn]; done) | decide +kernel)
theorem ef_rm35_2 (m : MethodId)  : entryFrame m #[(.int (2 : Int32))] 1 = mkF m 0 #[.val (.int (2 : Int32))] [] := by first | (simp [entryFrame, mkF, argsToLocals, Value.category]; done) | rfl
def Q35_2 (Z : State)  (h0 : Heap) (n0 : Nat) (v : Option Value) (h : Heap) (L : List Loc) : Prop := v = some (.int (1 : Int32)) ∧ Fr n0 L ∧ (h = h0)
set_option maxRecDepth 65536 in
set_option maxHeartbeats 40000000 in
theorem rm35_2 (l : Launch) (Z : State) (a0 : Array Value) (hw : ∀ d ∈ tables_1, d.before a0 Z = true) (ws : List Jvm.Cond)  (h0 : Heap) (n0 : Nat) (Z0 : n0 ≤ h0.size) :
  MetFree l (⟨"com/example/arcward/arcward/solver/Domains", "wordsFor", "(I)I"⟩ : MethodName) (head1 (Jvm.Cond.code (⟨"com/example/arcward/arcward/solver/Domains", "wordsFor", "(I)I"⟩ : MethodName) prog_50_method_12_code 1 (some .int) :: ws) ({ frames := 0, cells := 0, slots := 0, locals := 0 } : Room)) (fun a U => a = #[(.int (2 : Int32))] ∧ Z.Warmed39 U.vm ∧ U.heap = h0) (fun _ _ _ _ _ => True) (fun _ U o U' => ∃ v L, o = .returned v ∧ Q35_2 Z  h0 n0 v U'.heap L ∧ FrameEnd U o U' L ({ frames := 0, cells := 0, slots := 0, locals := 0 } : Room).cells ({ frames := 0, cells := 0, slots := 0, locals := 0 } : Room).slots) := by
 refine MetFree.of_bodySF pn35 hisR ?_
 intro p e s m args below meth c s₁ Bd hml0 hP hK
 obtain ⟨rfl, hZ, hh⟩ := hP
 have hx := Bd.exec
 have hby := Bd.bytes
 have hml : c.maxLocals = 1 := hml0
 have hown : s.vm.findClass "com/example/arcward/arcward/solver/Domains" = some m.cls := findClass_of_methodNamed Bd.named
 have hnm := (name_of_methodNamed Bd.named Bd.method).1
 have X0 : Stand p l e ({ frames := 0, cells := 0, slots := 0, locals := 0 } : Room) s m #[(.int (2 : Int32))] below meth c s₁ [] 0 0 := Stand.of_body Bd
 have e0 : s₁.heap = h0 := by rw [← hh, Bd.state]; rfl
 have N0 := Fr.nil n0
 have p0 : Go p.tables e below (s₁.setTop (entryFrame m #[(.int (2 : Int32))] 1)) (s₁.setTop (mkF m 0 #[.val (.int (2 : Int32))] [])) := fun t_ k_ => castTop (ef_rm35_2 m ) k_
 have p101 : Go p.tables e below _ (s₁.setTop (mkF m 9 #[.val (.int (2 : Int32))] [(.int ((65 : Int32) / (64 : Int32)))])) := fun t_ k_ => p0 t_ (by
  refine XS.iloadN X0.here hx rfl (hb hby d35_0) rfl ?_
  refine XS.bipush X0.here hx rfl (hb hby d35_1) ?_
  refine XS.iadd X0.here hx rfl (hb hby d35_3) rfl ?_
  refine XS.iconst X0.here hx rfl (hb hby d35_4) ?_
  refine XS.isub X0.here hx rfl (hb hby d35_5) rfl ?_
  refine XS.bipush X0.here hx rfl (hb hby d35_6) ?_
  refine XS.idiv X0.here hx rfl (hb hby d35_8) rfl (by decide) ?_
  exact k_)
 obtain ⟨fs, hr, hrun, hended, hW, hsame⟩ := X0.leave (v := some (.int ((65 : Int32) / (64 : Int32)))) (fun h => by rw [Bd.returns] at h; cases h)
 refine ⟨_, _, p101 _ (retI X0 hx Bd.returns (hb hby d35_9) hr), hrun, hended, _, _, rfl, ?_, ⟨_, rfl⟩, hW, hsame.mono (by decide) (by decide)⟩
 show Q35_2 Z  h0 n0 _ s₁.heap _
 rw [e0]
 exact ⟨congrArg (fun q => some (Value.int q)) (by decide), N0, rfl⟩
theorem d32_0 : decode prog_50_method_1_code 0 = .ok (.aload_n 0, 1) := by decide +kernel
theorem d32_1 : decode prog_50_method_1_code 1 = .ok (.invokespecial 1, 3) := by decide +kernel
theorem d32_4 : decode prog_50_method_1_code 4 = .ok (.aload_n 0, 1) := by decide +kernel
theorem d32_5 : decode prog_50_method_1_code 5 = .ok (.bipush 96, 2) := by decide +kernel
theorem d32_7 : decode prog_50_method_1_code 7 = .ok (.newarray .int, 2) := by decide +kernel
theorem d32_9 : decode prog_50_method_1_code 9 = .ok (.putfield 7, 3) := by decide +kernel
theorem d32_12 : decode prog_50_method_1_code 12 = .ok (.aload_n 0, 1) := by decide +kernel
theorem d32_13 : decode prog_50_method_1_code 13 = .ok (.iload_n 2, 1) := by decide +kernel
theorem d32_14 : decode prog_50_method_1_code 14 = .ok (.newarray .int, 2) := by decide +kernel
theorem d32_16 : decode prog_50_method_1_code 16 = .ok (.putfield 13, 3) := by decide +kernel
theorem d32_19 : decode prog_50_method_1_code 19 = .ok (.aload_n 1, 1) := by decide +kernel
theorem d32_20 : decode prog_50_method_1_code 20 = .ok (.invokevirtual 16, 3) := by decide +kernel
theorem d32_23 : decode prog_50_method_1_code 23 = .ok (.invokeinterface 22 1, 5) := by decide +kernel
theorem d32_28 : decode prog_50_method_1_code 28 = .ok (.istore_n 3, 1) := by decide +kernel
theorem d32_29 : decode prog_50_method_1_code 29 = .ok (.aload_n 0, 1) := by decide +kernel
theorem d32_30 : decode prog_50_method_1_code 30 = .ok (.iload_n 3, 1) := by decide +kernel
theorem d32_31 : decode prog_50_method_1_code 31 = .ok (.anewarray 28, 3) := by decide +kernel
theorem d32_34 : decode prog_50_method_1_code 34 = .ok (.putfield 30, 3) := by decide +kernel
theorem d32_37 : decode prog_50_method_1_code 37 = .ok (.aload_n 0, 1) := by decide +kernel
theorem d32_38 : decode prog_50_method_1_code 38 = .ok (.iload_n 3, 1) := by decide +kernel
theorem d32_39 : decode prog_50_method_1_code 39 = .ok (.newarray .int, 2) := by decide +kernel
theorem d32_41 : decode prog_50_method_1_code 41 = .ok (.putfield 34, 3) := by decide +kernel
theorem d32_44 : decode prog_50_method_1_code 44 = .ok (.aload_n 0, 1) := by decide +kernel
theorem d32_45 : decode prog_50_method_1_code 45 = .ok (.iload_n 3, 1) := by decide +kernel
theorem d32_46 : decode prog_50_method_1_code 46 = .ok (.newarray .int, 2) := by decide +kernel
theorem d32_48 : decode prog_50_method_1_code 48 = .ok (.putfield 37, 3) := by decide +kernel
theorem d32_51 : decode prog_50_method_1_code 51 = .ok (.aload_n 0, 1) := by decide +kernel
theorem d32_52 : decode prog_50_method_1_code 52 = .ok (.iload_n 3, 1) := by decide +kernel
theorem d32_53 : decode prog_50_method_1_code 53 = .ok (.newarray .boolean, 2) := by decide +kernel
theorem d32_55 : decode prog_50_method_1_code 55 = .ok (.putfield 40, 3) := by decide +kernel
theorem d32_58 : decode prog_50_method_1_code 58 = .ok (.iconst 0, 1) := by decide +kernel
theorem d32_59 : decode prog_50_method_1_code 59 = .ok (.istore 4, 2) := by decide +kernel
theorem d32_61 : decode prog_50_method_1_code 61 = .ok (.iload 4, 2) := by decide +kernel
theorem d32_63 : decode prog_50_method_1_code 63 = .ok (.iload_n 3, 1) := by decide +kernel
theorem d32_64 : decode prog_50_method_1_code 64 = .ok (.if_icmp .ge 87, 3) := by decide +kernel
theorem d32_67 : decode prog_50_method_1_code 67 = .ok (.aload_n 1, 1) := by decide +kernel
theorem d32_68 : decode prog_50_method_1_code 68 = .ok (.invokevirtual 16, 3) := by decide +kernel
theorem d32_71 : decode prog_50_method_1_code 71 = .ok (.iload 4, 2) := by decide +kernel
theorem d32_73 : decode prog_50_method_1_code 73 = .ok (.invokeinterface 44 2, 5) := by decide +kernel
theorem d32_78 : decode prog_50_method_1_code 78 = .ok (.checkcast 48, 3) := by decide +kernel
theorem d32_81 : decode prog_50_method_1_code 81 = .ok (.invokevirtual 50, 3) := by decide +kernel
theorem d32_84 : decode prog_50_method_1_code 84 = .ok (.istore 5, 2) := by decide +kernel
theorem d32_86 : decode prog_50_method_1_code 86 = .ok (.aload_n 0, 1) := by decide +kernel
theorem d32_87 : decode prog_50_method_1_code 87 = .ok (.getfield 30, 3) := by decide +kernel
theorem d32_90 : decode prog_50_method_1_code 90 = .ok (.iload 4, 2) := by decide +kernel
theorem d32_92 : decode prog_50_method_1_code 92 = .ok (.iload 5, 2) := by decide +kernel
theorem d32_94 : decode prog_50_method_1_code 94 = .ok (.invokestatic 51, 3) := by decide +kernel
theorem d32_97 : decode prog_50_method_1_code 97 = .ok (.newarray .long, 2) := by decide +kernel
theorem d32_99 : decode prog_50_method_1_code 99 = .ok (.aastore, 1) := by decide +kernel
theorem d32_100 : decode prog_50_method_1_code 100 = .ok (.iconst 0, 1) := by decide +kernel
theorem d32_101 : decode prog_50_method_1_code 101 = .ok (.istore 6, 2) := by decide +kernel
theorem d32_103 : decode prog_50_method_1_code 103 = .ok (.iload 6, 2) := by decide +kernel
theorem d32_105 : decode prog_50_method_1_code 105 = .ok (.iload 5, 2) := by decide +kernel
theorem d32_107 : decode prog_50_method_1_code 107 = .ok (.if_icmp .ge 29, 3) := by decide +kernel
theorem d32_110 : decode prog_50_method_1_code 110 = .ok (.aload_n 0, 1) := by decide +kernel
theorem d32_111 : decode prog_50_method_1_code 111 = .ok (.getfield 30, 3) := by decide +kernel
theorem d32_114 : decode prog_50_method_1_code 114 = .ok (.iload 4, 2) := by decide +kernel
theorem d32_116 : decode prog_50_method_1_code 116 = .ok (.aaload, 1) := by decide +kernel
theorem d32_117 : decode prog_50_method_1_code 117 = .ok (.iload 6, 2) := by decide +kernel
theorem d32_119 : decode prog_50_method_1_code 119 = .ok (.bipush 6, 2) := by decide +kernel
theorem d32_121 : decode prog_50_method_1_code 121 = .ok (.iushr, 1) := by decide +kernel
theorem d32_122 : decode prog_50_method_1_code 122 = .ok (.dup2, 1) := by decide +kernel
theorem d32_123 : decode prog_50_method_1_code 123 = .ok (.laload, 1) := by decide +kernel
theorem d32_124 : decode prog_50_method_1_code 124 = .ok (.lconst 1, 1) := by decide +kernel
theorem d32_125 : decode prog_50_method_1_code 125 = .ok (.iload 6, 2) := by decide +kernel
theorem d32_127 : decode prog_50_method_1_code 127 = .ok (.lshl, 1) := by decide +kernel
theorem d32_128 : decode prog_50_method_1_code 128 = .ok (.lor, 1) := by decide +kernel
theorem d32_129 : decode prog_50_method_1_code 129 = .ok (.lastore, 1) := by decide +kernel
theorem d32_130 : decode prog_50_method_1_code 130 = .ok (.iinc 6 1, 3) := by decide +kernel
theorem d32_133 : decode prog_50_method_1_code 133 = .ok (.goto (-30), 3) := by decide +kernel
theorem d32_136 : decode prog_50_method_1_code 136 = .ok (.aload_n 0, 1) := by decide +kernel
theorem d32_137 : decode prog_50_method_1_code 137 = .ok (.getfield 34, 3) := by decide +kernel
theorem d32_140 : decode prog_50_method_1_code 140 = .ok (.iload 4, 2) := by decide +kernel
theorem d32_142 : decode prog_50_method_1_code 142 = .ok (.iload 5, 2) := by decide +kernel
theorem d32_144 : decode prog_50_method_1_code 144 = .ok (.iastore, 1) := by decide +kernel
theorem d32_145 : decode prog_50_method_1_code 145 = .ok (.iinc 4 1, 3) := by decide +kernel
theorem d32_148 : decode prog_50_method_1_code 148 = .ok (.goto (-87), 3) := by decide +kernel
theorem d32_151 : decode prog_50_method_1_code 151 = .ok (.return_, 1) := by decide +kernel
theorem pd17 : parseMethodDescriptor "(I)I" = some ⟨[.int], some .int⟩ := by decide +kernel
theorem pn32 : plainFor (⟨"com/example/arcward/arcward/solver/Domains", "<init>", "(Lcom/example/arcward/arcward/model/Instance;I)V"⟩ : MethodName) = true := plainFor_of_name (by first | (simp [plainName, overriddenIn]; done) | decide +kernel)
theorem ef_rm32 (m : MethodId) (a1 : Addr) (a2 : Addr) (vl : Addr) (x0 : Addr) (x1 : Addr) (v0 : Addr) (v1 : Addr) (kv0 : ClassId) (kv1 : ClassId) (de : Addr) (kde : ClassId) (el : Addr) (ea : Addr) (kea : ClassId) (em : Addr) (mr : Addr) : entryFrame m #[(.ref a1), (.ref a2), (.int (0 : Int32))] 7 = mkF m 0 #[.val (.ref a1), .val (.ref a2), .val (.int (0 : Int32)), .unset, .unset, .unset, .unset] [] := by first | (simp [entryFrame, mkF, argsToLocals, Value.category]; done) | rfl
def Q32 (Z : State) (a1 : Addr) (a2 : Addr) (vl : Addr) (x0 : Addr) (x1 : Addr) (v0 : Addr) (v1 : Addr) (kv0 : ClassId) (kv1 : ClassId) (de : Addr) (kde : ClassId) (el : Addr) (ea : Addr) (kea : ClassId) (em : Addr) (mr : Addr) (h0 : Heap) (n0 : Nat) (v : Option Value) (h : Heap) (L : List Loc) : Prop := ∃ (tr : Addr) (bi : Addr) (sz : Addr) (rs : Addr) (ir : Addr) (w0 : Addr) (w1 : Addr) (rb : Addr) (ktr : ClassId) (kbi : ClassId) (ksz : ClassId) (krs : ClassId) (kir : ClassId) (kw0 : ClassId) (kw1 : ClassId), v = none ∧ Fr n0 L ∧ (Keep h0 h [a1]) ∧ (Exa Z h a1 "com/example/arcward/arcward/solver/Domains") ∧ (Fld Z h a1 "com/example/arcward/arcward/solver/Domains" "trail" "[I" (.ref tr)) ∧ (Fld Z h a1 "com/example/arcward/arcward/solver/Domains" "removedBy" "[I" (.ref rb)) ∧ (Fld Z h a1 "com/example/arcward/arcward/solver/Domains" "bits" "[[J" (.ref bi)) ∧ (Fld Z h a1 "com/example/arcward/arcward/solver/Domains" "sizes" "[I" (.ref sz)) ∧ (Fld Z h a1 "com/example/arcward/arcward/solver/Domains" "resized" "[I" (.ref rs)) ∧ (Fld Z h a1 "com/example/arcward/arcward/solver/Domains" "inResized" "[Z" (.ref ir)) ∧ (Fld Z h a1 "com/example/arcward/arcward/solver/Domains" "resizedCount" "I" (.int (0 : Int32))) ∧ (Fld Z h a1 "com/example/arcward/arcward/solver/Domains" "trailLength" "I" (.int (0 : Int32))) ∧ (Arv Z h tr ktr .int (96 : Int32) (List.replicate 96 (.int (0 : Int32))) (.int (0 : Int32))) ∧ (Arv Z h bi kbi (.array .long) (2 : Int32) [(.ref w0), (.ref w1)] .null) ∧ (Arv Z h sz ksz .int (2 : Int32) [(.int (2 : Int32)), (.int (2 : Int32))] (.int (0 : Int32))) ∧ (Arv Z h rs krs .int (2 : Int32) [(.int (0 : Int32)), (.int (0 : Int32))] (.int (0 : Int32))) ∧ (Arv Z h ir kir .boolean (2 : Int32) [(.int (0 : Int32)), (.int (0 : Int32))] (.int (0 : Int32))) ∧ (Arv Z h w0 kw0 .long (1 : Int32) [(.long (3 : Int64))] (.long (0 : Int64))) ∧ (Arv Z h w1 kw1 .long (1 : Int32) [(.long (3 : Int64))] (.long (0 : Int64))) ∧ (own_SZ h0 tr bi sz rs ir w0 w1) ∧ (own_ND a1 tr bi sz rs ir w0 w1) ∧ (own_GE n0 a1 tr bi sz rs ir w0 w1) ∧ (OvrA Z kbi .long "[J")
set_option maxRecDepth 65536 in
set_option maxHeartbeats 40000000 in
theorem rm32 (l : Launch) (Z : State) (a0 : Array Value) (hw : ∀ d ∈ tables_1, d.before a0 Z = true) (ws : List Jvm.Cond) (a1 : Addr) (a2 : Addr) (vl : Addr) (x0 : Addr) (x1 : Addr) (v0 : Addr) (v1 : Addr) (kv0 : ClassId) (kv1 : ClassId) (de : Addr) (kde : ClassId) (el : Addr) (ea : Addr) (kea : ClassId) (em : Addr) (mr : Addr) (h0 : Heap) (n0 : Nat) (Z0 : n0 ≤ h0.size) (O1 : Old Z n0 h0) (G : own_H Z de kde el ea kea em mr) (F0 : Exa Z h0 a1 "com/example/arcward/arcward/solver/Domains") (F1 : Fld Z h0 a1 "com/example/arcward/arcward/solver/Domains" "trail" "[I" .null) (F2 : Fld Z h0 a1 "com/example/arcward/arcward/solver/Domains" "removedBy" "[I" .null) (F3 : Fld Z h0 a1 "com/example/arcward/arcward/solver/Domains" "bits" "[[J" .null) (F4 : Fld Z h0 a1 "com/example/arcward/arcward/solver/Domains" "sizes" "[I" .null) (F5 : Fld Z h0 a1 "com/example/arcward/arcward/solver/Domains" "resized" "[I" .null) (F6 : Fld Z h0 a1 "com/example/arcward/arcward/solver/Domains" "inResized" "[Z" .null) (F7 : Fld Z h0 a1 "com/example/arcward/arcward/solver/Domains" "resizedCount" "I" (.int (0 : Int32))) (F8 : Fld Z h0 a1 "com/example/arcward/arcward/solver/Domains" "trailLength" "I" (.int (0 : Int32))) (g1 : n0 ≤ a1) (I0 : Exa Z h0 a2 "com/example/arcward/arcward/model/Instance") (I1 : Fld Z h0 a2 "com/example/arcward/arcward/model/Instance" "variables" "Ljava/util/List;" (.ref vl)) (I2 : Exa Z h0 vl "java/util/ImmutableCollections$List12") (I3 : Fld Z h0 vl "java/util/ImmutableCollections$List12" "e0" "Ljava/lang/Object;" (.ref x0)) (I4 : Fld Z h0 vl "java/util/ImmutableCollections$List12" "e1" "Ljava/lang/Object;" (.ref x1)) (gx : n0 ≤ x1) (Y0 : Exa Z h0 x0 "com/example/arcward/arcward/model/Variable") (Y1 : Fld Z h0 x0 "com/example/arcward/arcward/model/Variable" "values" "[I" (.ref v0)) (Y2 : Arv Z h0 v0 kv0 .int (2 : Int32) [(.int (0 : Int32)), (.int (1 : Int32))] (.int (0 : Int32))) (Y3 : Exa Z h0 x1 "com/example/arcward/arcward/model/Variable") (Y4 : Fld Z h0 x1 "com/example/arcward/arcward/model/Variable" "values" "[I" (.ref v1)) (Y5 : Arv Z h0 v1 kv1 .int (2 : Int32) [(.int (0 : Int32)), (.int (1 : Int32))] (.int (0 : Int32))) (na2 : a1 ≠ a2) (nvl : a1 ≠ vl) (nx0 : a1 ≠ x0) (nx1 : a1 ≠ x1) (nv0 : a1 ≠ v0) (nv1 : a1 ≠ v1) :
  MetFree l (⟨"com/example/arcward/arcward/solver/Domains", "<init>", "(Lcom/example/arcward/arcward/model/Instance;I)V"⟩ : MethodName) (head1 (Jvm.Cond.code (⟨"com/example/arcward/arcward/solver/Domains", "<init>", "(Lcom/example/arcward/arcward/model/Instance;I)V"⟩ : MethodName) prog_50_method_1_code 7 none :: ws) ({ frames := 1, cells := 8, slots := 106, locals := 14 } : Room)) (fun a U => a = #[(.ref a1), (.ref a2), (.int (0 : Int32))] ∧ Z.Warmed39 U.vm ∧ U.heap = h0) (fun _ _ _ _ _ => True) (fun _ U o U' => ∃ v L, o = .returned v ∧ Q32 Z a1 a2 vl x0 x1 v0 v1 kv0 kv1 de kde el ea kea em mr h0 n0 v U'.heap L ∧ FrameEnd U o U' L ({ frames := 1, cells := 8, slots := 106, locals := 14 } : Room).cells ({ frames := 1, cells := 8, slots := 106, locals := 14 } : Room).slots) := by
 refine MetFree.of_bodySF pn32 hisR ?_
 intro p e s m args below meth c s₁ Bd hml0 hP hK
 obtain ⟨rfl, hZ, hh⟩ := hP
 have hx := Bd.exec
 have hby := Bd.bytes
 have hml : c.maxLocals = 7 := hml0
 have hown : s.vm.findClass "com/example/arcward/arcward/solver/Domains" = some m.cls := findClass_of_methodNamed Bd.named
 have hnm := (name_of_methodNamed Bd.named Bd.method).1
 have X0 : Stand p l e ({ frames := 1, cells := 8, slots := 106, locals := 14 } : Room) s m #[(.ref a1), (.ref a2), (.int (0 : Int32))] below meth c s₁ [] 0 0 := Stand.of_body Bd
 have e0 : s₁.heap = h0 := by rw [← hh, Bd.state]; rfl
 have N0 := Fr.nil n0
 have p0 : Go p.tables e below (s₁.setTop (entryFrame m #[(.ref a1), (.ref a2), (.int (0 : Int32))] 7)) (s₁.setTop (mkF m 0 #[.val (.ref a1), .val (.ref a2), .val (.int (0 : Int32)), .unset, .unset, .unset, .unset] [])) := fun t_ k_ => castTop (ef_rm32 m a1 a2 vl x0 x1 v0 v1 kv0 kv1 de kde el ea kea em mr) k_
 have p101 : Go p.tables e below _ (s₁.setTop (mkF m 1 #[.val (.ref a1), .val (.ref a2), .val (.int (0 : Int32)), .unset, .unset, .unset, .unset] [(.ref a1)])) := fun t_ k_ => p0 t_ (by
  refine XS.aloadN X0.here hx rfl (hb hby d32_0) rfl rfl ?_
  exact k_)
 obtain ⟨T102, X102, e102, st102⟩ := initO X0 hx hZ hown (own_w hw 263 rfl) (own_w hw 19 rfl) (own_w hw 20 rfl) e0 (g := (mkF m 1 #[.val (.ref a1), .val (.ref a2), .val (.int (0 : Int32)), .unset, .unset, .unset, .unset] [(.ref a1)])) rfl (by rw [hml]; rfl) rfl (hb hby d32_1) (by decide) (W := 0) (by show 2 * 0 + _ ≤ _; exact Nat.le_of_eq rfl) (by decide)
 have p103 : Go p.tables e below _ (T102.setTop (mkF m 7 #[.val (.ref a1), .val (.ref a2), .val (.int (0 : Int32)), .unset, .unset, .unset, .unset] [(.int (96 : Int32)), (.ref a1)])) := fun t_ k_ => (gc p101 st102) t_ (by
  refine XS.aloadN X102.here hx rfl (hb hby d32_4) rfl rfl ?_
  refine XS.bipush X102.here hx rfl (hb hby d32_5) ?_
  exact k_)
 obtain ⟨T104, h104, k104, X104, e104, E104, A104, AE104, st104⟩ := newPE X102 hx hZ (own_w hw 37 rfl) e102 (g := (mkF m 7 #[.val (.ref a1), .val (.ref a2), .val (.int (0 : Int32)), .unset, .unset, .unset, .unset] [(.int (96 : Int32)), (.ref a1)])) rfl (hb hby d32_7) rfl (by decide) (cap := 96) (by decide) (by decide) (by decide) (by decide) (ad := "[I") (by decide)
 obtain ⟨b104, g104⟩ : ∃ z, z = h0.size := ⟨_, rfl⟩
 rw [← g104] at A104 AE104 st104
 have ne_a1_b104 : a1 ≠ b104 := Nat.ne_of_lt (Nat.lt_of_lt_of_le F0.lt (Nat.le_of_eq g104.symm))
 have ne_a2_b104 : a2 ≠ b104 := Nat.ne_of_lt (Nat.lt_of_lt_of_le I0.lt (Nat.le_of_eq g104.symm))
 have ne_vl_b104 : vl ≠ b104 := Nat.ne_of_lt (Nat.lt_of_lt_of_le I2.lt (Nat.le_of_eq g104.symm))
 have ne_x0_b104 : x0 ≠ b104 := Nat.ne_of_lt (Nat.lt_of_lt_of_le Y0.lt (Nat.le_of_eq g104.symm))
 have ne_v0_b104 : v0 ≠ b104 := Nat.ne_of_lt (Nat.lt_of_lt_of_le Y2.lt (Nat.le_of_eq g104.symm))
 have ne_x1_b104 : x1 ≠ b104 := Nat.ne_of_lt (Nat.lt_of_lt_of_le Y3.lt (Nat.le_of_eq g104.symm))
 have ne_v1_b104 : v1 ≠ b104 := Nat.ne_of_lt (Nat.lt_of_lt_of_le Y5.lt (Nat.le_of_eq g104.symm))
 have ge_b104 : n0 ≤ b104 := Nat.le_trans (Nat.le_trans Z0 (Keep.refl h0 [a1]).1) (Nat.le_of_eq g104.symm)
 have sz_b104 : h0.size ≤ b104 := Nat.le_trans (Keep.refl h0 [a1]).1 (Nat.le_of_eq g104.symm)
 have K105 : Keep h0 h104 [a1] := (Keep.refl h0 [a1]).ext E104
 have V104 : Arv Z h104 b104 k104 .int (96 : Int32) (List.replicate 96 (.int (0 : Int32))) (.int (0 : Int32)) := (Arv.new A104 (by decide)).pad (pad_rep [] (.int (0 : Int32)) 96)
 have f106 := (F1.ext E104)
 have f107 := (F0.ext E104)
 obtain ⟨T108, h108, X108, e108, W108, st108⟩ := putF X104 hx hZ hown (host := "") (Or.inl (own_w hw 264 rfl)) Via.refl e104 f106 f107 (Or.inl (own_w hw 265 rfl)) (own_w hw 90 rfl) (ty := (.array .int)) (by decide) rfl rfl (g := (mkF m 9 #[.val (.ref a1), .val (.ref a2), .val (.int (0 : Int32)), .unset, .unset, .unset, .unset] [(.ref b104), (.ref a1)])) rfl rfl (hb hby d32_9)
 have K109 : Keep h0 h108 [a1] := K105.wr W108 (Or.inl (List.mem_of_getElem? (i := 0) rfl))
 have N108 := Fr.snoc X108 N0 g1
 have F108 : Fld Z h108 a1 "com/example/arcward/arcward/solver/Domains" "trail" "[I" (.ref b104) := f106.same W108
 have p110 : Go p.tables e below _ (T108.setTop (mkF m 14 #[.val (.ref a1), .val (.ref a2), .val (.int (0 : Int32)), .unset, .unset, .unset, .unset] [(.int (0 : Int32)), (.ref a1)])) := fun t_ k_ => (gc (gc p103 st104) st108) t_ (by
  refine XS.aloadN X108.here hx rfl (hb hby d32_12) rfl rfl ?_
  refine XS.iloadN X108.here hx rfl (hb hby d32_13) rfl ?_
  exact k_)
 obtain ⟨T111, h111, k111, X111, e111, E111, A111, AE111, st111⟩ := newPE X108 hx hZ (own_w hw 37 rfl) e108 (g := (mkF m 14 #[.val (.ref a1), .val (.ref a2), .val (.int (0 : Int32)), .unset, .unset, .unset, .unset] [(.int (0 : Int32)), (.ref a1)])) rfl (hb hby d32_14) rfl (by decide) (cap := 0) (by decide) (by decide) (by decide) (by decide) (ad := "[I") (by decide)
 obtain ⟨b111, g111⟩ : ∃ z, z = h108.size := ⟨_, rfl⟩
 rw [← g111] at A111 AE111 st111
 have f112 := (f107.wr W108)
 have ne_a1_b111 : a1 ≠ b111 := Nat.ne_of_lt (Nat.lt_of_lt_of_le f112.lt (Nat.le_of_eq g111.symm))
 have f113 := ((I0.ext E104).wr W108)
 have ne_a2_b111 : a2 ≠ b111 := Nat.ne_of_lt (Nat.lt_of_lt_of_le f113.lt (Nat.le_of_eq g111.symm))
 have f114 := ((I2.ext E104).wr W108)
 have ne_vl_b111 : vl ≠ b111 := Nat.ne_of_lt (Nat.lt_of_lt_of_le f114.lt (Nat.le_of_eq g111.symm))
 have f115 := ((Y0.ext E104).wr W108)
 have ne_x0_b111 : x0 ≠ b111 := Nat.ne_of_lt (Nat.lt_of_lt_of_le f115.lt (Nat.le_of_eq g111.symm))
 have f116 := ((Y2.ext E104).other W108 (Ne.symm nv0))
 have ne_v0_b111 : v0 ≠ b111 := Nat.ne_of_lt (Nat.lt_of_lt_of_le f116.lt (Nat.le_of_eq g111.symm))
 have f117 := ((Y3.ext E104).wr W108)
 have ne_x1_b111 : x1 ≠ b111 := Nat.ne_of_lt (Nat.lt_of_lt_of_le f117.lt (Nat.le_of_eq g111.symm))
 have f118 := ((Y5.ext E104).other W108 (Ne.symm nv1))
 have ne_v1_b111 : v1 ≠ b111 := Nat.ne_of_lt (Nat.lt_of_lt_of_le f118.lt (Nat.le_of_eq g111.symm))
 have f119 := (AE104.wr W108)
 have ne_b104_b111 : b104 ≠ b111 := Nat.ne_of_lt (Nat.lt_of_lt_of_le f119.lt (Nat.le_of_eq g111.symm))
 have ge_b111 : n0 ≤ b111 := Nat.le_trans (Nat.le_trans Z0 K109.1) (Nat.le_of_eq g111.symm)
 have sz_b111 : h0.size ≤ b111 := Nat.le_trans K109.1 (Nat.le_of_eq g111.symm)
 have K120 : Keep h0 h111 [a1] := K109.ext E111
 have V111 : Arv Z h111 b111 k111 .int (0 : Int32) [] (.int (0 : Int32)) := Arv.new A111 (by decide)
 have f121 := (((F2.ext E104).other W108 (Or.inr (slot_ne (Or.inr (own_w hw 267 rfl)) (Or.inl (own_w hw 265 rfl)) (by decide) (t := (.array .int)) (t' := (.array .int)) (by decide) (by decide)))).ext E111)
 have f122 := (f112.ext E111)
 obtain ⟨T123, h123, X123, e123, W123, st123⟩ := putF X111 hx hZ hown (host := "") (Or.inl (own_w hw 266 rfl)) Via.refl e111 f121 f122 (Or.inr ⟨(own_w hw 267 rfl), rfl, hnm⟩) (own_w hw 90 rfl) (ty := (.array .int)) (by decide) rfl rfl (g := (mkF m 16 #[.val (.ref a1), .val (.ref a2), .val (.int (0 : Int32)), .unset, .unset, .unset, .unset] [(.ref b111), (.ref a1)])) rfl rfl (hb hby d32_16)
 have K124 : Keep h0 h123 [a1] := K120.wr W123 (Or.inl (List.mem_of_getElem? (i := 0) rfl))
 have N123 := Fr.snoc X123 N108 g1
 have F123 : Fld Z h123 a1 "com/example/arcward/arcward/solver/Domains" "removedBy" "[I" (.ref b111) := f121.same W123
 have p125 : Go p.tables e below _ (T123.setTop (mkF m 20 #[.val (.ref a1), .val (.ref a2), .val (.int (0 : Int32)), .unset, .unset, .unset, .unset] [(.ref a2)])) := fun t_ k_ => (gc (gc p110 st111) st123) t_ (by
  refine XS.aloadN X123.here hx rfl (hb hby d32_19) rfl rfl ?_
  exact k_)
 have f126 := ((((I1.ext E104).other W108 (Or.inl (Ne.symm na2))).ext E111).other W123 (Or.inl (Ne.symm na2)))
 have f128 := ((f113.ext E111).wr W123)
 obtain ⟨cq127, kq127, q127a, q127b, q127c⟩ := isOf hZ e123 f128
 obtain ⟨_, _, ⟨T127, L127, k127, n127⟩, -, X127, ⟨Lc127, hQ127, l127, y127, z127⟩, st127⟩ := X123.virtualBack hx (y := (⟨"com/example/arcward/arcward/model/Instance", "variables", "()Ljava/util/List;"⟩ : MethodName)) (z := (⟨"com/example/arcward/arcward/model/Instance", "variables", "()Ljava/util/List;"⟩ : MethodName)) hown (mvT hZ (own_w hw 268 rfl)) (mvT hZ (own_w hw 269 rfl)) (notFace_of_selects (args := #[]) (mvT hZ (own_w hw 271 rfl))) (mvT hZ (own_w hw 271 rfl)) (mvT hZ (own_w hw 270 rfl)) (by decide) (backOf (W := 0) (rm33 l Z a0 hw [] a2 vl h123 n0 (Nat.le_trans Z0 K124.1) f126) hZ (own_w hw 272 rfl) (own_w hw 94 rfl) (by decide) (by decide)) q127a q127c (g := (mkF m 20 #[.val (.ref a1), .val (.ref a2), .val (.int (0 : Int32)), .unset, .unset, .unset, .unset] [(.ref a2)])) rfl (by rw [hml]; rfl) (Steps.refl _) (argsL := []) (rest := []) (lenOf pd12 rfl) rfl (by show 2 * 0 + _ ≤ _; exact Nat.le_of_eq rfl) (hb hby d32_20) (fun _ _ => ⟨rfl, e123, (by decide : 2 + 0 ≤ _), (by decide : 96 + 0 ≤ _)⟩)
 dsimp only [Pt.U, Pt.locs, Pt.cells, Pt.slots] at X127 l127 y127 z127 st127 hQ127
 subst l127 y127 z127
 obtain ⟨rfl, N127q, q127_hh⟩ := hQ127
 have N127 := Fr.app N123 N127q
 have f129 := ((((O1.ext E104).wr W108 g1).ext E111).wr W123 g1)
 have f130 := ((f114.ext E111).wr W123)
 have f131 := ((((I3.ext E104).other W108 (Or.inl (Ne.symm nvl))).ext E111).other W123 (Or.inl (Ne.symm nvl)))
 have f132 := ((((I4.ext E104).other W108 (Or.inl (Ne.symm nvl))).ext E111).other W123 (Or.inl (Ne.symm nvl)))
 obtain ⟨cq133, kq133, q133a, q133b, q133c⟩ := isOf hZ q127_hh f130
 obtain ⟨_, _, ⟨T133, L133, k133, n133⟩, -, X133, ⟨Lc133, hQ133, l133, y133, z133⟩, st133⟩ := X127.interfaceBack hx (xi := (⟨"java/util/List", "size", "()I"⟩ : MethodName)) (y := (⟨"java/util/ImmutableCollections$List12", "size", "()I"⟩ : MethodName)) hown (mvT hZ (own_w hw 273 rfl)) (mvT hZ (own_w hw 193 rfl)) (mvT hZ (own_w hw 194 rfl)) (mvT hZ (own_w hw 195 rfl)) (mvT hZ (own_w hw 196 rfl)) (mvT hZ (own_w hw 197 rfl)) (mvT hZ (own_w hw 198 rfl)) (mvT hZ (own_w hw 199 rfl)) (by decide) (backOf (W := 0) (rm25 l Z a0 hw [] vl x0 x1 de kde el ea kea em mr h123 n0 (Nat.le_trans Z0 K124.1) f129 G f130 f131 f132 gx) hZ (own_w hw 200 rfl) (own_w hw 157 rfl) (by decide) (by decide)) q133a q133b q133c (g := (mkF m 23 #[.val (.ref a1), .val (.ref a2), .val (.int (0 : Int32)), .unset, .unset, .unset, .unset] [(.ref vl)])) rfl (by rw [hml]; rfl) (Steps.refl _) (argsL := []) (rest := []) (lenOf pd13 rfl) rfl (by show 2 * 0 + _ ≤ _; exact Nat.le_of_eq rfl) (hb hby d32_23) (fun _ _ => ⟨rfl, q127_hh, (by decide : 2 + 0 ≤ _), (by decide : 96 + 0 ≤ _)⟩)
 dsimp only [Pt.U, Pt.locs, Pt.cells, Pt.slots] at X133 l133 y133 z133 st133 hQ133
 subst l133 y133 z133
 obtain ⟨rfl, N133q, q133_hh⟩ := hQ133
 have N133 := Fr.app N127 N133q
 have p134 : Go p.tables e below _ (T133.setTop (mkF m 31 #[.val (.ref a1), .val (.ref a2), .val (.int (0 : Int32)), .val (.int (2 : Int32)), .unset, .unset, .unset] [(.int (2 : Int32)), (.ref a1)])) := fun t_ k_ => (gcT (gcT p125 st127) st133) t_ (by
  refine XS.istoreN X133.here hx rfl (hb hby d32_28) rfl (l' := #[.val (.ref a1), .val (.ref a2), .val (.int (0 : Int32)), .val (.int (2 : Int32)), .unset, .unset, .unset]) rfl ?_
  refine XS.aloadN X133.here hx rfl (hb hby d32_29) rfl rfl ?_
  refine XS.iloadN X133.here hx rfl (hb hby d32_30) rfl ?_
  exact k_)
 obtain ⟨T135, h135, k135, X135, e135, E135, A135, AE135, O135, st135⟩ := newRA (ty := .long) X133 hx hZ hown (by decide) (own_w hw 274 rfl) (own_w hw 275 rfl) q133_hh (g := (mkF m 31 #[.val (.ref a1), .val (.ref a2), .val (.int (0 : Int32)), .val (.int (2 : Int32)), .unset, .unset, .unset] [(.int (2 : Int32)), (.ref a1)])) rfl (hb hby d32_31) rfl (by decide) (cap := 2) (by decide) (by decide) (by decide) (by decide) (ad := "[[J") (by decide)
 obtain ⟨b135, g135⟩ : ∃ z, z = h123.size := ⟨_, rfl⟩
 rw [← g135] at A135 AE135 st135
 have f136 := (f122.wr W123)
 have ne_a1_b135 : a1 ≠ b135 := Nat.ne_of_lt (Nat.lt_of_lt_of_le f136.lt (Nat.le_of_eq g135.symm))
 have ne_a2_b135 : a2 ≠ b135 := Nat.ne_of_lt (Nat.lt_of_lt_of_le f128.lt (Nat.le_of_eq g135.symm))
 have ne_vl_b135 : vl ≠ b135 := Nat.ne_of_lt (Nat.lt_of_lt_of_le f130.lt (Nat.le_of_eq g135.symm))
 have f137 := ((f115.ext E111).wr W123)
 have ne_x0_b135 : x0 ≠ b135 := Nat.ne_of_lt (Nat.lt_of_lt_of_le f137.lt (Nat.le_of_eq g135.symm))
 have f138 := ((f116.ext E111).other W123 (Ne.symm nv0))
 have ne_v0_b135 : v0 ≠ b135 := Nat.ne_of_lt (Nat.lt_of_lt_of_le f138.lt (Nat.le_of_eq g135.symm))
 have f139 := ((f117.ext E111).wr W123)
 have ne_x1_b135 : x1 ≠ b135 := Nat.ne_of_lt (Nat.lt_of_lt_of_le f139.lt (Nat.le_of_eq g135.symm))
 have f140 := ((f118.ext E111).other W123 (Ne.symm nv1))
 have ne_v1_b135 : v1 ≠ b135 := Nat.ne_of_lt (Nat.lt_of_lt_of_le f140.lt (Nat.le_of_eq g135.symm))
 have f141 := ((f119.ext E111).wr W123)
 have ne_b104_b135 : b104 ≠ b135 := Nat.ne_of_lt (Nat.lt_of_lt_of_le f141.lt (Nat.le_of_eq g135.symm))
 have f142 := (AE111.wr W123)
 have ne_b111_b135 : b111 ≠ b135 := Nat.ne_of_lt (Nat.lt_of_lt_of_le f142.lt (Nat.le_of_eq g135.symm))
 have ge_b135 : n0 ≤ b135 := Nat.le_trans (Nat.le_trans Z0 K124.1) (Nat.le_of_eq g135.symm)
 have sz_b135 : h0.size ≤ b135 := Nat.le_trans K124.1 (Nat.le_of_eq g135.symm)
 have K143 : Keep h0 h135 [a1] := K124.ext E135
 have V135 : Arv Z h135 b135 k135 (.array .long) (2 : Int32) [.null, .null] .null := (Arv.new A135 (by decide)).pad (pad_rep [] .null 2)
 have f144 := (((((F3.ext E104).other W108 (Or.inr (slot_ne (Or.inr (own_w hw 277 rfl)) (Or.inl (own_w hw 265 rfl)) (by decide) (t := (.array (.array .long))) (t' := (.array .int)) (by decide) (by decide)))).ext E111).other W123 (Or.inr (slot_ne (Or.inr (own_w hw 277 rfl)) (Or.inr (own_w hw 267 rfl)) (by decide) (t := (.array (.array .long))) (t' := (.array .int)) (by decide) (by decide)))).ext E135)
 have f145 := (f136.ext E135)
 obtain ⟨T146, h146, X146, e146, W146, st146⟩ := putF X135 hx hZ hown (host := "") (Or.inl (own_w hw 276 rfl)) Via.refl e135 f144 f145 (Or.inr ⟨(own_w hw 277 rfl), rfl, hnm⟩) (own_w hw 90 rfl) (ty := (.array (.array .long))) (by decide) rfl rfl (g := (mkF m 34 #[.val (.ref a1), .val (.ref a2), .val (.int (0 : Int32)), .val (.int (2 : Int32)), .unset, .unset, .unset] [(.ref b135), (.ref a1)])) rfl rfl (hb hby d32_34)
 have K147 : Keep h0 h146 [a1] := K143.wr W146 (Or.inl (List.mem_of_getElem? (i := 0) rfl))
 have N146 := Fr.snoc X146 N133 g1
 have F146 : Fld Z h146 a1 "com/example/arcward/arcward/solver/Domains" "bits" "[[J" (.ref b135) := f144.same W146
 have p148 : Go p.tables e below _ (T146.setTop (mkF m 39 #[.val (.ref a1), .val (.ref a2), .val (.int (0 : Int32)), .val (.int (2 : Int32)), .unset, .unset, .unset] [(.int (2 : Int32)), (.ref a1)])) := fun t_ k_ => (gc (gc p134 st135) st146) t_ (by
  refine XS.aloadN X146.here hx rfl (hb hby d32_37) rfl rfl ?_
  refine XS.iloadN X146.here hx rfl (hb hby d32_38) rfl ?_
  exact k_)
 obtain ⟨T149, h149, k149, X149, e149, E149, A149, AE149, st149⟩ := newPE X146 hx hZ (own_w hw 37 rfl) e146 (g := (mkF m 39 #[.val (.ref a1), .val (.ref a2), .val (.int (0 : Int32)), .val (.int (2 : Int32)), .unset, .unset, .unset] [(.int (2 : Int32)), (.ref a1)])) rfl (hb hby d32_39) rfl (by decide) (cap := 2) (by decide) (by decide) (by decide) (by decide) (ad := "[I") (by decide)
 obtain ⟨b149, g149⟩ : ∃ z, z = h146.size := ⟨_, rfl⟩
 rw [← g149] at A149 AE149 st149
 have f150 := (f145.wr W146)
 have ne_a1_b149 : a1 ≠ b149 := Nat.ne_of_lt (Nat.lt_of_lt_of_le f150.lt (Nat.le_of_eq g149.symm))
 have f151 := ((f128.ext E135).wr W146)
 have ne_a2_b149 : a2 ≠ b149 := Nat.ne_of_lt (Nat.lt_of_lt_of_le f151.lt (Nat.le_of_eq g149.symm))
 have f152 := ((f130.ext E135).wr W146)
 have ne_vl_b149 : vl ≠ b149 := Nat.ne_of_lt (Nat.lt_of_lt_of_le f152.lt (Nat.le_of_eq g149.symm))
 have f153 := ((f137.ext E135).wr W146)
 have ne_x0_b149 : x0 ≠ b149 := Nat.ne_of_lt (Nat.lt_of_lt_of_le f153.lt (Nat.le_of_eq g149.symm))
 have f154 := ((f138.ext E135).other W146 (Ne.symm nv0))
 have ne_v0_b149 : v0 ≠ b149 := Nat.ne_of_lt (Nat.lt_of_lt_of_le f154.lt (Nat.le_of_eq g149.symm))
 have f155 := ((f139.ext E135).wr W146)
 have ne_x1_b149 : x1 ≠ b149 := Nat.ne_of_lt (Nat.lt_of_lt_of_le f155.lt (Nat.le_of_eq g149.symm))
 have f156 := ((f140.ext E135).other W146 (Ne.symm nv1))
 have ne_v1_b149 : v1 ≠ b149 := Nat.ne_of_lt (Nat.lt_of_lt_of_le f156.lt (Nat.le_of_eq g149.symm))
 have f157 := ((f141.ext E135).wr W146)
 have ne_b104_b149 : b104 ≠ b149 := Nat.ne_of_lt (Nat.lt_of_lt_of_le f157.lt (Nat.le_of_eq g149.symm))
 have f158 := ((f142.ext E135).wr W146)
 have ne_b111_b149 : b111 ≠ b149 := Nat.ne_of_lt (Nat.lt_of_lt_of_le f158.lt (Nat.le_of_eq g149.symm))
 have f159 := (AE135.wr W146)
 have ne_b135_b149 : b135 ≠ b149 := Nat.ne_of_lt (Nat.lt_of_lt_of_le f159.lt (Nat.le_of_eq g149.symm))
 have ge_b149 : n0 ≤ b149 := Nat.le_trans (Nat.le_trans Z0 K147.1) (Nat.le_of_eq g149.symm)
 have sz_b149 : h0.size ≤ b149 := Nat.le_trans K147.1 (Nat.le_of_eq g149.symm)
 have K160 : Keep h0 h149 [a1] := K147.ext E149
 have V149 : Arv Z h149 b149 k149 .int (2 : Int32) [(.int (0 : Int32)), (.int (0 : Int32))] (.int (0 : Int32)) := (Arv.new A149 (by decide)).pad (pad_rep [] (.int (0 : Int32)) 2)
 have f161 := (((((((F4.ext E104).other W108 (Or.inr (slot_ne (Or.inr (own_w hw 279 rfl)) (Or.inl (own_w hw 265 rfl)) (by decide) (t := (.array .int)) (t' := (.array .int)) (by decide) (by decide)))).ext E111).other W123 (Or.inr (slot_ne (Or.inr (own_w hw 279 rfl)) (Or.inr (own_w hw 267 rfl)) (by decide) (t := (.array .int)) (t' := (.array .int)) (by decide) (by decide)))).ext E135).other W146 (Or.inr (slot_ne (Or.inr (own_w hw 279 rfl)) (Or.inr (own_w hw 277 rfl)) (by decide) (t := (.array .int)) (t' := (.array (.array .long))) (by decide) (by decide)))).ext E149)
 have f162 := (f150.ext E149)
 obtain ⟨T163, h163, X163, e163, W163, st163⟩ := putF X149 hx hZ hown (host := "") (Or.inl (own_w hw 278 rfl)) Via.refl e149 f161 f162 (Or.inr ⟨(own_w hw 279 rfl), rfl, hnm⟩) (own_w hw 90 rfl) (ty := (.array .int)) (by decide) rfl rfl (g := (mkF m 41 #[.val (.ref a1), .val (.ref a2), .val (.int (0 : Int32)), .val (.int (2 : Int32)), .unset, .unset, .unset] [(.ref b149), (.ref a1)])) rfl rfl (hb hby d32_41)
 have K164 : Keep h0 h163 [a1] := K160.wr W163 (Or.inl (List.mem_of_getElem? (i := 0) rfl))
 have N163 := Fr.snoc X163 N146 g1
 have F163 : Fld Z h163 a1 "com/example/arcward/arcward/solver/Domains" "sizes" "[I" (.ref b149) := f161.same W163
 have p165 : Go p.tables e below _ (T163.setTop (mkF m 46 #[.val (.ref a1), .val (.ref a2), .val (.int (0 : Int32)), .val (.int (2 : Int32)), .unset, .unset, .unset] [(.int (2 : Int32)), (.ref a1)])) := fun t_ k_ => (gc (gc p148 st149) st163) t_ (by
  refine XS.aloadN X163.here hx rfl (hb hby d32_44) rfl rfl ?_
  refine XS.iloadN X163.here hx rfl (hb hby d32_45) rfl ?_
  exact k_)
 obtain ⟨T166, h166, k166, X166, e166, E166, A166, AE166, st166⟩ := newPE X163 hx hZ (own_w hw 37 rfl) e163 (g := (mkF m 46 #[.val (.ref a1), .val (.ref a2), .val (.int (0 : Int32)), .val (.int (2 : Int32)), .unset, .unset, .unset] [(.int (2 : Int32)), (.ref a1)])) rfl (hb hby d32_46) rfl (by decide) (cap := 2) (by decide) (by decide) (by decide) (by decide) (ad := "[I") (by decide)
 obtain ⟨b166, g166⟩ : ∃ z, z = h163.size := ⟨_, rfl⟩
 rw [← g166] at A166 AE166 st166
 have f167 := (f162.wr W163)
 have ne_a1_b166 : a1 ≠ b166 := Nat.ne_of_lt (Nat.lt_of_lt_of_le f167.lt (Nat.le_of_eq g166.symm))
 have f168 := ((f151.ext E149).wr W163)
 have ne_a2_b166 : a2 ≠ b166 := Nat.ne_of_lt (Nat.lt_of_lt_of_le f168.lt (Nat.le_of_eq g166.symm))
 have f169 := ((f152.ext E149).wr W163)
 have ne_vl_b166 : vl ≠ b166 := Nat.ne_of_lt (Nat.lt_of_lt_of_le f169.lt (Nat.le_of_eq g166.symm))
 have f170 := ((f153.ext E149).wr W163)
 have ne_x0_b166 : x0 ≠ b166 := Nat.ne_of_lt (Nat.lt_of_lt_of_le f170.lt (Nat.le_of_eq g166.symm))
 have f171 := ((f154.ext E149).other W163 (Ne.symm nv0))
 have ne_v0_b166 : v0 ≠ b166 := Nat.ne_of_lt (Nat.lt_of_lt_of_le f171.lt (Nat.le_of_eq g166.symm))
 have f172 := ((f155.ext E149).wr W163)
 have ne_x1_b166 : x1 ≠ b166 := Nat.ne_of_lt (Nat.lt_of_lt_of_le f172.lt (Nat.le_of_eq g166.symm))
 have f173 := ((f156.ext E149).other W163 (Ne.symm nv1))
 have ne_v1_b166 : v1 ≠ b166 := Nat.ne_of_lt (Nat.lt_of_lt_of_le f173.lt (Nat.le_of_eq g166.symm))
 have f174 := ((f157.ext E149).wr W163)
 have ne_b104_b166 : b104 ≠ b166 := Nat.ne_of_lt (Nat.lt_of_lt_of_le f174.lt (Nat.le_of_eq g166.symm))
 have f175 := ((f158.ext E149).wr W163)
 have ne_b111_b166 : b111 ≠ b166 := Nat.ne_of_lt (Nat.lt_of_lt_of_le f175.lt (Nat.le_of_eq g166.symm))
 have f176 := ((f159.ext E149).wr W163)
 have ne_b135_b166 : b135 ≠ b166 := Nat.ne_of_lt (Nat.lt_of_lt_of_le f176.lt (Nat.le_of_eq g166.symm))
 have f177 := (AE149.wr W163)
 have ne_b149_b166 : b149 ≠ b166 := Nat.ne_of_lt (Nat.lt_of_lt_of_le f177.lt (Nat.le_of_eq g166.symm))
 have ge_b166 : n0 ≤ b166 := Nat.le_trans (Nat.le_trans Z0 K164.1) (Nat.le_of_eq g166.symm)
 have sz_b166 : h0.size ≤ b166 := Nat.le_trans K164.1 (Nat.le_of_eq g166.symm)
 have K178 : Keep h0 h166 [a1] := K164.ext E166
 have V166 : Arv Z h166 b166 k166 .int (2 : Int32) [(.int (0 : Int32)), (.int (0 : Int32))] (.int (0 : Int32)) := (Arv.new A166 (by decide)).pad (pad_rep [] (.int (0 : Int32)) 2)
 have f179 := (((((((((F5.ext E104).other W108 (Or.inr (slot_ne (Or.inr (own_w hw 281 rfl)) (Or.inl (own_w hw 265 rfl)) (by decide) (t := (.array .int)) (t' := (.array .int)) (by decide) (by decide)))).ext E111).other W123 (Or.inr (slot_ne (Or.inr (own_w hw 281 rfl)) (Or.inr (own_w hw 267 rfl)) (by decide) (t := (.array .int)) (t' := (.array .int)) (by decide) (by decide)))).ext E135).other W146 (Or.inr (slot_ne (Or.inr (own_w hw 281 rfl)) (Or.inr (own_w hw 277 rfl)) (by decide) (t := (.array .int)) (t' := (.array (.array .long))) (by decide) (by decide)))).ext E149).other W163 (Or.inr (slot_ne (Or.inr (own_w hw 281 rfl)) (Or.inr (own_w hw 279 rfl)) (by decide) (t := (.array .int)) (t' := (.array .int)) (by decide) (by decide)))).ext E166)
 have f180 := (f167.ext E166)
 obtain ⟨T181, h181, X181, e181, W181, st181⟩ := putF X166 hx hZ hown (host := "") (Or.inl (own_w hw 280 rfl)) Via.refl e166 f179 f180 (Or.inr ⟨(own_w hw 281 rfl), rfl, hnm⟩) (own_w hw 90 rfl) (ty := (.array .int)) (by decide) rfl rfl (g := (mkF m 48 #[.val (.ref a1), .val (.ref a2), .val (.int (0 : Int32)), .val (.int (2 : Int32)), .unset, .unset, .unset] [(.ref b166), (.ref a1)])) rfl rfl (hb hby d32_48)
 have K182 : Keep h0 h181 [a1] := K178.wr W181 (Or.inl (List.mem_of_getElem? (i := 0) rfl))
 have N181 := Fr.snoc X181 N163 g1
 have F181 : Fld Z h181 a1 "com/example/arcward/arcward/solver/Domains" "resized" "[I" (.ref b166) := f179.same W181
 have p183 : Go p.tables e below _ (T181.setTop (mkF m 53 #[.val (.ref a1), .val (.ref a2), .val (.int (0 : Int32)), .val (.int (2 : Int32)), .unset, .unset, .unset] [(.int (2 : Int32)), (.ref a1)])) := fun t_ k_ => (gc (gc p165 st166) st181) t_ (by
  refine XS.aloadN X181.here hx rfl (hb hby d32_51) rfl rfl ?_
  refine XS.iloadN X181.here hx rfl (hb hby d32_52) rfl ?_
  exact k_)
 obtain ⟨T184, h184, k184, X184, e184, E184, A184, AE184, st184⟩ := newPE X181 hx hZ (own_w hw 282 rfl) e181 (g := (mkF m 53 #[.val (.ref a1), .val (.ref a2), .val (.int (0 : Int32)), .val (.int (2 : Int32)), .unset, .unset, .unset] [(.int (2 : Int32)), (.ref a1)])) rfl (hb hby d32_53) rfl (by decide) (cap := 2) (by decide) (by decide) (by decide) (by decide) (ad := "[Z") (by decide)
 obtain ⟨b184, g184⟩ : ∃ z, z = h181.size := ⟨_, rfl⟩
 rw [← g184] at A184 AE184 st184
 have f185 := (f180.wr W181)
 have ne_a1_b184 : a1 ≠ b184 := Nat.ne_of_lt (Nat.lt_of_lt_of_le f185.lt (Nat.le_of_eq g184.symm))
 have f186 := ((f168.ext E166).wr W181)
 have ne_a2_b184 : a2 ≠ b184 := Nat.ne_of_lt (Nat.lt_of_lt_of_le f186.lt (Nat.le_of_eq g184.symm))
 have f187 := ((f169.ext E166).wr W181)
 have ne_vl_b184 : vl ≠ b184 := Nat.ne_of_lt (Nat.lt_of_lt_of_le f187.lt (Nat.le_of_eq g184.symm))
 have f188 := ((f170.ext E166).wr W181)
 have ne_x0_b184 : x0 ≠ b184 := Nat.ne_of_lt (Nat.lt_of_lt_of_le f188.lt (Nat.le_of_eq g184.symm))
 have f189 := ((f171.ext E166).other W181 (Ne.symm nv0))
 have ne_v0_b184 : v0 ≠ b184 := Nat.ne_of_lt (Nat.lt_of_lt_of_le f189.lt (Nat.le_of_eq g184.symm))
 have f190 := ((f172.ext E166).wr W181)
 have ne_x1_b184 : x1 ≠ b184 := Nat.ne_of_lt (Nat.lt_of_lt_of_le f190.lt (Nat.le_of_eq g184.symm))
 have f191 := ((f173.ext E166).other W181 (Ne.symm nv1))
 have ne_v1_b184 : v1 ≠ b184 := Nat.ne_of_lt (Nat.lt_of_lt_of_le f191.lt (Nat.le_of_eq g184.symm))
 have f192 := ((f174.ext E166).wr W181)
 have ne_b104_b184 : b104 ≠ b184 := Nat.ne_of_lt (Nat.lt_of_lt_of_le f192.lt (Nat.le_of_eq g184.symm))
 have f193 := ((f175.ext E166).wr W181)
 have ne_b111_b184 : b111 ≠ b184 := Nat.ne_of_lt (Nat.lt_of_lt_of_le f193.lt (Nat.le_of_eq g184.symm))
 have f194 := ((f176.ext E166).wr W181)
 have ne_b135_b184 : b135 ≠ b184 := Nat.ne_of_lt (Nat.lt_of_lt_of_le f194.lt (Nat.le_of_eq g184.symm))
 have f195 := ((f177.ext E166).wr W181)
 have ne_b149_b184 : b149 ≠ b184 := Nat.ne_of_lt (Nat.lt_of_lt_of_le f195.lt (Nat.le_of_eq g184.symm))
 have f196 := (AE166.wr W181)
 have ne_b166_b184 : b166 ≠ b184 := Nat.ne_of_lt (Nat.lt_of_lt_of_le f196.lt (Nat.le_of_eq g184.symm))
 have ge_b184 : n0 ≤ b184 := Nat.le_trans (Nat.le_trans Z0 K182.1) (Nat.le_of_eq g184.symm)
 have sz_b184 : h0.size ≤ b184 := Nat.le_trans K182.1 (Nat.le_of_eq g184.symm)
 have K197 : Keep h0 h184 [a1] := K182.ext E184
 have V184 : Arv Z h184 b184 k184 .boolean (2 : Int32) [(.int (0 : Int32)), (.int (0 : Int32))] (.int (0 : Int32)) := (Arv.new A184 (by decide)).pad (pad_rep [] (.int (0 : Int32)) 2)
 have f198 := (((((((((((F6.ext E104).other W108 (Or.inr (slot_ne (Or.inr (own_w hw 284 rfl)) (Or.inl (own_w hw 265 rfl)) (by decide) (t := (.array .boolean)) (t' := (.array .int)) (by decide) (by decide)))).ext E111).other W123 (Or.inr (slot_ne (Or.inr (own_w hw 284 rfl)) (Or.inr (own_w hw 267 rfl)) (by decide) (t := (.array .boolean)) (t' := (.array .int)) (by decide) (by decide)))).ext E135).other W146 (Or.inr (slot_ne (Or.inr (own_w hw 284 rfl)) (Or.inr (own_w hw 277 rfl)) (by decide) (t := (.array .boolean)) (t' := (.array (.array .long))) (by decide) (by decide)))).ext E149).other W163 (Or.inr (slot_ne (Or.inr (own_w hw 284 rfl)) (Or.inr (own_w hw 279 rfl)) (by decide) (t := (.array .boolean)) (t' := (.array .int)) (by decide) (by decide)))).ext E166).other W181 (Or.inr (slot_ne (Or.inr (own_w hw 284 rfl)) (Or.inr (own_w hw 281 rfl)) (by decide) (t := (.array .boolean)) (t' := (.array .int)) (by decide) (by decide)))).ext E184)
 have f199 := (f185.ext E184)
 obtain ⟨T200, h200, X200, e200, W200, st200⟩ := putF X184 hx hZ hown (host := "") (Or.inl (own_w hw 283 rfl)) Via.refl e184 f198 f199 (Or.inr ⟨(own_w hw 284 rfl), rfl, hnm⟩) (own_w hw 90 rfl) (ty := (.array .boolean)) (by decide) rfl rfl (g := (mkF m 55 #[.val (.ref a1), .val (.ref a2), .val (.int (0 : Int32)), .val (.int (2 : Int32)), .unset, .unset, .unset] [(.ref b184), (.ref a1)])) rfl rfl (hb hby d32_55)
 have K201 : Keep h0 h200 [a1] := K197.wr W200 (Or.inl (List.mem_of_getElem? (i := 0) rfl))
 have N200 := Fr.snoc X200 N181 g1
 have F200 : Fld Z h200 a1 "com/example/arcward/arcward/solver/Domains" "inResized" "[Z" (.ref b184) := f198.same W200
 have p202 : Go p.tables e below _ (T200.setTop (mkF m 68 #[.val (.ref a1), .val (.ref a2), .val (.int (0 : Int32)), .val (.int (2 : Int32)), .val (.int (0 : Int32)), .unset, .unset] [(.ref a2)])) := fun t_ k_ => (gc (gc p183 st184) st200) t_ (by
  refine XS.iconst X200.here hx rfl (hb hby d32_58) ?_
  refine XS.istore X200.here hx rfl (hb hby d32_59) rfl (l' := #[.val (.ref a1), .val (.ref a2), .val (.int (0 : Int32)), .val (.int (2 : Int32)), .val (.int (0 : Int32)), .unset, .unset]) rfl ?_
  refine XS.iload X200.here hx rfl (hb hby d32_61) rfl ?_
  refine XS.iloadN X200.here hx rfl (hb hby d32_63) rfl ?_
  refine XS.icmpNo X200.here hx rfl (hb hby d32_64) rfl (tlt (by decide : ((0 : Int32) < (2 : Int32)))).2.1 ?_
  refine XS.aloadN X200.here hx rfl (hb hby d32_67) rfl rfl ?_
  exact k_)
 have f203 := ((((((((f126.ext E135).other W146 (Or.inl (Ne.symm na2))).ext E149).other W163 (Or.inl (Ne.symm na2))).ext E166).other W181 (Or.inl (Ne.symm na2))).ext E184).other W200 (Or.inl (Ne.symm na2)))
 have f205 := ((f186.ext E184).wr W200)
 obtain ⟨cq204, kq204, q204a, q204b, q204c⟩ := isOf hZ e200 f205
 obtain ⟨_, _, ⟨T204, L204, k204, n204⟩, -, X204, ⟨Lc204, hQ204, l204, y204, z204⟩, st204⟩ := X200.virtualBack hx (y := (⟨"com/example/arcward/arcward/model/Instance", "variables", "()Ljava/util/List;"⟩ : MethodName)) (z := (⟨"com/example/arcward/arcward/model/Instance", "variables", "()Ljava/util/List;"⟩ : MethodName)) hown (mvT hZ (own_w hw 268 rfl)) (mvT hZ (own_w hw 269 rfl)) (notFace_of_selects (args := #[]) (mvT hZ (own_w hw 271 rfl))) (mvT hZ (own_w hw 271 rfl)) (mvT hZ (own_w hw 270 rfl)) (by decide) (backOf (W := 0) (rm33 l Z a0 hw [] a2 vl h200 n0 (Nat.le_trans Z0 K201.1) f203) hZ (own_w hw 272 rfl) (own_w hw 94 rfl) (by decide) (by decide)) q204a q204c (g := (mkF m 68 #[.val (.ref a1), .val (.ref a2), .val (.int (0 : Int32)), .val (.int (2 : Int32)), .val (.int (0 : Int32)), .unset, .unset] [(.ref a2)])) rfl (by rw [hml]; rfl) (Steps.refl _) (argsL := []) (rest := []) (lenOf pd12 rfl) rfl (by show 2 * 0 + _ ≤ _; exact Nat.le_of_eq rfl) (hb hby d32_68) (fun _ _ => ⟨rfl, e200, (by decide : 6 + 0 ≤ _), (by decide : 104 + 0 ≤ _)⟩)
 dsimp only [Pt.U, Pt.locs, Pt.cells, Pt.slots] at X204 l204 y204 z204 st204 hQ204
 subst l204 y204 z204
 obtain ⟨rfl, N204q, q204_hh⟩ := hQ204
 have N204 := Fr.app N200 N204q
 have p206 : Go p.tables e below _ (T204.setTop (mkF m 73 #[.val (.ref a1), .val (.ref a2), .val (.int (0 : Int32)), .val (.int (2 : Int32)), .val (.int (0 : Int32)), .unset, .unset] [(.int (0 : Int32)), (.ref vl)])) := fun t_ k_ => (gcT p202 st204) t_ (by
  refine XS.iload X204.here hx rfl (hb hby d32_71) rfl ?_
  exact k_)
 have f207 := ((((((((f129.ext E135).wr W146 g1).ext E149).wr W163 g1).ext E166).wr W181 g1).ext E184).wr W200 g1)
 have f208 := ((f187.ext E184).wr W200)
 have f209 := ((((((((f131.ext E135).other W146 (Or.inl (Ne.symm nvl))).ext E149).other W163 (Or.inl (Ne.symm nvl))).ext E166).other W181 (Or.inl (Ne.symm nvl))).ext E184).other W200 (Or.inl (Ne.symm nvl)))
 have f210 := ((((((((f132.ext E135).other W146 (Or.inl (Ne.symm nvl))).ext E149).other W163 (Or.inl (Ne.symm nvl))).ext E166).other W181 (Or.inl (Ne.symm nvl))).ext E184).other W200 (Or.inl (Ne.symm nvl)))
 obtain ⟨cq211, kq211, q211a, q211b, q211c⟩ := isOf hZ q204_hh f208
 obtain ⟨_, _, ⟨T211, L211, k211, n211⟩, -, X211, ⟨Lc211, hQ211, l211, y211, z211⟩, st211⟩ := X204.interfaceBack hx (xi := (⟨"java/util/List", "get", "(I)Ljava/lang/Object;"⟩ : MethodName)) (y := (⟨"java/util/ImmutableCollections$List12", "get", "(I)Ljava/lang/Object;"⟩ : MethodName)) hown (mvT hZ (own_w hw 285 rfl)) (mvT hZ (own_w hw 203 rfl)) (mvT hZ (own_w hw 204 rfl)) (mvT hZ (own_w hw 205 rfl)) (mvT hZ (own_w hw 206 rfl)) (mvT hZ (own_w hw 207 rfl)) (mvT hZ (own_w hw 208 rfl)) (mvT hZ (own_w hw 199 rfl)) (by decide) (backOf (W := 0) (rm26_0 l Z a0 hw [] vl x0 x1 de kde el ea kea em mr h200 n0 (Nat.le_trans Z0 K201.1) f207 G f208 f209 f210 gx) hZ (own_w hw 209 rfl) (own_w hw 157 rfl) (by decide) (by decide)) q211a q211b q211c (g := (mkF m 73 #[.val (.ref a1), .val (.ref a2), .val (.int (0 : Int32)), .val (.int (2 : Int32)), .val (.int (0 : Int32)), .unset, .unset] [(.int (0 : Int32)), (.ref vl)])) rfl (by rw [hml]; rfl) (Steps.refl _) (argsL := [(.int (0 : Int32))]) (rest := []) (lenOf pd15 rfl) rfl (by show 2 * 0 + _ ≤ _; exact Nat.le_of_eq rfl) (hb hby d32_73) (fun _ _ => ⟨rfl, q204_hh, (by decide : 6 + 0 ≤ _), (by decide : 104 + 0 ≤ _)⟩)
 dsimp only [Pt.U, Pt.locs, Pt.cells, Pt.slots] at X211 l211 y211 z211 st211 hQ211
 subst l211 y211 z211
 obtain ⟨rfl, N211q, q211_hh⟩ := hQ211
 have N211 := Fr.app N204 N211q
 have f212 := ((f188.ext E184).wr W200)
 obtain ⟨T213, X213, e213, st213⟩ := castY X211 hx hZ hown (own_w hw 286 rfl) q211_hh (Ins.self f212) (g := (mkF m 78 #[.val (.ref a1), .val (.ref a2), .val (.int (0 : Int32)), .val (.int (2 : Int32)), .val (.int (0 : Int32)), .unset, .unset] [(.ref x0)])) rfl rfl (hb hby d32_78)
 have f214 := ((((((((((((Y1.ext E104).other W108 (Or.inl (Ne.symm nx0))).ext E111).other W123 (Or.inl (Ne.symm nx0))).ext E135).other W146 (Or.inl (Ne.symm nx0))).ext E149).other W163 (Or.inl (Ne.symm nx0))).ext E166).other W181 (Or.inl (Ne.symm nx0))).ext E184).other W200 (Or.inl (Ne.symm nx0)))
 have f215 := ((f189.ext E184).other W200 (Ne.symm nv0))
 obtain ⟨cq216, kq216, q216a, q216b, q216c⟩ := isOf hZ e213 f212
 obtain ⟨_, _, ⟨T216, L216, k216, n216⟩, -, X216, ⟨Lc216, hQ216, l216, y216, z216⟩, st216⟩ := X213.virtualBack hx (y := (⟨"com/example/arcward/arcward/model/Variable", "size", "()I"⟩ : MethodName)) (z := (⟨"com/example/arcward/arcward/model/Variable", "size", "()I"⟩ : MethodName)) hown (mvT hZ (own_w hw 287 rfl)) (mvT hZ (own_w hw 288 rfl)) (notFace_of_selects (args := #[]) (mvT hZ (own_w hw 290 rfl))) (mvT hZ (own_w hw 290 rfl)) (mvT hZ (own_w hw 289 rfl)) (by decide) (backOf (W := 0) (rm34_2 l Z a0 hw [] x0 v0 kv0 [(.int (0 : Int32)), (.int (1 : Int32))] h200 n0 (Nat.le_trans Z0 K201.1) f214 f215) hZ (own_w hw 291 rfl) (own_w hw 28 rfl) (by decide) (by decide)) q216a q216c (g := (mkF m 81 #[.val (.ref a1), .val (.ref a2), .val (.int (0 : Int32)), .val (.int (2 : Int32)), .val (.int (0 : Int32)), .unset, .unset] [(.ref x0)])) rfl (by rw [hml]; rfl) (Steps.refl _) (argsL := []) (rest := []) (lenOf pd13 rfl) rfl (by show 2 * 0 + _ ≤ _; exact Nat.le_of_eq rfl) (hb hby d32_81) (fun _ _ => ⟨rfl, e213, (by decide : 6 + 0 ≤ _), (by decide : 104 + 0 ≤ _)⟩)
 dsimp only [Pt.U, Pt.locs, Pt.cells, Pt.slots] at X216 l216 y216 z216 st216 hQ216
 subst l216 y216 z216
 obtain ⟨rfl, N216q, q216_hh⟩ := hQ216
 have N216 := Fr.app N211 N216q
 have p217 : Go p.tables e below _ (T216.setTop (mkF m 87 #[.val (.ref a1), .val (.ref a2), .val (.int (0 : Int32)), .val (.int (2 : Int32)), .val (.int (0 : Int32)), .val (.int (2 : Int32)), .unset] [(.ref a1)])) := fun t_ k_ => (gcT (gc (gcT p206 st211) st213) st216) t_ (by
  refine XS.istore X216.here hx rfl (hb hby d32_84) rfl (l' := #[.val (.ref a1), .val (.ref a2), .val (.int (0 : Int32)), .val (.int (2 : Int32)), .val (.int (0 : Int32)), .val (.int (2 : Int32)), .unset]) rfl ?_
  refine XS.aloadN X216.here hx rfl (hb hby d32_86) rfl rfl ?_
  exact k_)
 have f218 := ((((((F146.ext E149).other W163 (Or.inr (slot_ne (Or.inr (own_w hw 277 rfl)) (Or.inr (own_w hw 279 rfl)) (by decide) (t := (.array (.array .long))) (t' := (.array .int)) (by decide) (by decide)))).ext E166).other W181 (Or.inr (slot_ne (Or.inr (own_w hw 277 rfl)) (Or.inr (own_w hw 281 rfl)) (by decide) (t := (.array (.array .long))) (t' := (.array .int)) (by decide) (by decide)))).ext E184).other W200 (Or.inr (slot_ne (Or.inr (own_w hw 277 rfl)) (Or.inr (own_w hw 284 rfl)) (by decide) (t := (.array (.array .long))) (t' := (.array .boolean)) (by decide) (by decide))))
 obtain ⟨T219, X219, e219, st219⟩ := getF X216 hx hZ hown (host := "") (Or.inl (own_w hw 276 rfl)) Via.refl q216_hh f218 (g := (mkF m 87 #[.val (.ref a1), .val (.ref a2), .val (.int (0 : Int32)), .val (.int (2 : Int32)), .val (.int (0 : Int32)), .val (.int (2 : Int32)), .unset] [(.ref a1)])) rfl rfl (hb hby d32_87)
 have p220 : Go p.tables e below _ (T219.setTop (mkF m 94 #[.val (.ref a1), .val (.ref a2), .val (.int (0 : Int32)), .val (.int (2 : Int32)), .val (.int (0 : Int32)), .val (.int (2 : Int32)), .unset] [(.int (2 : Int32)), (.int (0 : Int32)), (.ref b135)])) := fun t_ k_ => (gc p217 st219) t_ (by
  refine XS.iload X219.here hx rfl (hb hby d32_90) rfl ?_
  refine XS.iload X219.here hx rfl (hb hby d32_92) rfl ?_
  exact k_)
 obtain ⟨_, _, ⟨T221, L221, k221, n221⟩, -, X221, ⟨Lc221, hQ221, l221, y221, z221⟩, st221⟩ := Jvm.LawKit.callS X219 hx (y := (⟨"com/example/arcward/arcward/solver/Domains", "wordsFor", "(I)I"⟩ : MethodName)) hown (mvT hZ (own_w hw 292 rfl)) (mvT hZ (own_w hw 293 rfl)) (mvT hZ (own_w hw 91 rfl)) (mvT hZ (own_w hw 294 rfl)) (by decide) (backOf (W := 2) (rm35_2 l Z a0 hw []  h200 n0 (Nat.le_trans Z0 K201.1) ) hZ (own_w hw 294 rfl) (own_w hw 91 rfl) (by decide) (by decide)) (g := (mkF m 94 #[.val (.ref a1), .val (.ref a2), .val (.int (0 : Int32)), .val (.int (2 : Int32)), .val (.int (0 : Int32)), .val (.int (2 : Int32)), .unset] [(.int (2 : Int32)), (.int (0 : Int32)), (.ref b135)])) rfl (by rw [hml]; rfl) (argsL := [(.int (2 : Int32))]) (rest := [(.int (0 : Int32)), (.ref b135)]) (lenOf pd17 rfl) rfl (by show 2 * 0 + _ ≤ _; exact Nat.le_of_eq rfl) (hb hby d32_94) (fun _ _ => ⟨rfl, e219, (by decide : 6 + 0 ≤ _), (by decide : 104 + 0 ≤ _)⟩)
 dsimp only [Pt.U, Pt.locs, Pt.cells, Pt.slots] at X221 l221 y221 z221 st221 hQ221
 subst l221 y221 z221
 obtain ⟨rfl, N221q, q221_hh⟩ := hQ221
 have N221 := Fr.app N216 N221q
 obtain ⟨T222, h222, k222, X222, e222, E222, A222, AE222, st222⟩ := newPE X221 hx hZ (own_w hw 295 rfl) q221_hh (g := (mkF m 97 #[.val (.ref a1), .val (.ref a2), .val (.int (0 : Int32)), .val (.int (2 : Int32)), .val (.int (0 : Int32)), .val (.int (2 : Int32)), .unset] [(.int (1 : Int32)), (.int (0 : Int32)), (.ref b135)])) rfl (hb hby d32_97) rfl (by decide) (cap := 1) (by decide) (by decide) (by decide) (by decide) (ad := "[J") (by decide)
 obtain ⟨b222, g222⟩ : ∃ z, z = h200.size := ⟨_, rfl⟩
 rw [← g222] at A222 AE222 st222
 have f223 := (f199.wr W200)
 have ne_a1_b222 : a1 ≠ b222 := Nat.ne_of_lt (Nat.lt_of_lt_of_le f223.lt (Nat.le_of_eq g222.symm))
 have ne_a2_b222 : a2 ≠ b222 := Nat.ne_of_lt (Nat.lt_of_lt_of_le f205.lt (Nat.le_of_eq g222.symm))
 have ne_vl_b222 : vl ≠ b222 := Nat.ne_of_lt (Nat.lt_of_lt_of_le f208.lt (Nat.le_of_eq g222.symm))
 have ne_x0_b222 : x0 ≠ b222 := Nat.ne_of_lt (Nat.lt_of_lt_of_le f212.lt (Nat.le_of_eq g222.symm))
 have ne_v0_b222 : v0 ≠ b222 := Nat.ne_of_lt (Nat.lt_of_lt_of_le f215.lt (Nat.le_of_eq g222.symm))
 have f224 := ((f190.ext E184).wr W200)
 have ne_x1_b222 : x1 ≠ b222 := Nat.ne_of_lt (Nat.lt_of_lt_of_le f224.lt (Nat.le_of_eq g222.symm))
 have f225 := ((f191.ext E184).other W200 (Ne.symm nv1))
 have ne_v1_b222 : v1 ≠ b222 := Nat.ne_of_lt (Nat.lt_of_lt_of_le f225.lt (Nat.le_of_eq g222.symm))
 have f226 := ((f192.ext E184).wr W200)
 have ne_b104_b222 : b104 ≠ b222 := Nat.ne_of_lt (Nat.lt_of_lt_of_le f226.lt (Nat.le_of_eq g222.symm))
 have f227 := ((f193.ext E184).wr W200)
 have ne_b111_b222 : b111 ≠ b222 := Nat.ne_of_lt (Nat.lt_of_lt_of_le f227.lt (Nat.le_of_eq g222.symm))
 have f228 := ((f194.ext E184).wr W200)
 have ne_b135_b222 : b135 ≠ b222 := Nat.ne_of_lt (Nat.lt_of_lt_of_le f228.lt (Nat.le_of_eq g222.symm))
 have f229 := ((f195.ext E184).wr W200)
 have ne_b149_b222 : b149 ≠ b222 := Nat.ne_of_lt (Nat.lt_of_lt_of_le f229.lt (Nat.le_of_eq g222.symm))
 have f230 := ((f196.ext E184).wr W200)
 have ne_b166_b222 : b166 ≠ b222 := Nat.ne_of_lt (Nat.lt_of_lt_of_le f230.lt (Nat.le_of_eq g222.symm))
 have f231 := (AE184.wr W200)
 have ne_b184_b222 : b184 ≠ b222 := Nat.ne_of_lt (Nat.lt_of_lt_of_le f231.lt (Nat.le_of_eq g222.symm))
 have ge_b222 : n0 ≤ b222 := Nat.le_trans (Nat.le_trans Z0 K201.1) (Nat.le_of_eq g222.symm)
 have sz_b222 : h0.size ≤ b222 := Nat.le_trans K201.1 (Nat.le_of_eq g222.symm)
 have K232 : Keep h0 h222 [a1] := K201.ext E222
 have V222 : Arv Z h222 b222 k222 .long (1 : Int32) [(.long (0 : Int64))] (.long (0 : Int64)) := (Arv.new A222 (by decide)).pad (pad_rep [] (.long (0 : Int64)) 1)
 have f233 := ((((((((V135.other W146 (Ne.symm ne_a1_b135)).ext E149).other W163 (Ne.symm ne_a1_b135)).ext E166).other W181 (Ne.symm ne_a1_b135)).ext E184).other W200 (Ne.symm ne_a1_b135)).ext E222)
 obtain ⟨cl234, Ar234, q234, S234, Ng234, H234, G234⟩ := id f233
 have hin234 := inb_of S234 (j := (0 : Int32)) ⟨by decide, by decide⟩
 obtain ⟨T234, h234, X234, e234, W234, st234⟩ := stR X222 hx hZ e222 Ar234 (j := (0 : Int32)) hin234 rfl (Sto.ofVA Ar234 q234 O135 (Ins.self AE222)) (g := (mkF m 99 #[.val (.ref a1), .val (.ref a2), .val (.int (0 : Int32)), .val (.int (2 : Int32)), .val (.int (0 : Int32)), .val (.int (2 : Int32)), .unset] [(.ref b222), (.int (0 : Int32)), (.ref b135)])) rfl rfl (hb hby d32_99)
 have K235 : Keep h0 h234 [a1] := K232.wr W234 (Or.inr sz_b135)
 have N234 := Fr.snoc X234 N221 ge_b135
 have V234 : Arv Z h234 b135 k135 (.array .long) (2 : Int32) [(.ref b222), .null] .null := Arv.set Ar234 q234 S234 Ng234 H234 G234 rfl W234 0 rfl (Nat.le_of_ble_eq_true rfl)
 have p236 : Go p.tables e below _ (T234.setTop (mkF m 111 #[.val (.ref a1), .val (.ref a2), .val (.int (0 : Int32)), .val (.int (2 : Int32)), .val (.int (0 : Int32)), .val (.int (2 : Int32)), .val (.int (0 : Int32))] [(.ref a1)])) := fun t_ k_ => (gc (gc (gc p220 st221) st222) st234) t_ (by
  refine XS.iconst X234.here hx rfl (hb hby d32_100) ?_
  refine XS.istore X234.here hx rfl (hb hby d32_101) rfl (l' := #[.val (.ref a1), .val (.ref a2), .val (.int (0 : Int32)), .val (.int (2 : Int32)), .val (.int (0 : Int32)), .val (.int (2 : Int32)), .val (.int (0 : Int32))]) rfl ?_
  refine XS.iload X234.here hx rfl (hb hby d32_103) rfl ?_
  refine XS.iload X234.here hx rfl (hb hby d32_105) rfl ?_
  refine XS.icmpNo X234.here hx rfl (hb hby d32_107) rfl (tlt (by decide : ((0 : Int32) < (2 : Int32)))).2.1 ?_
  refine XS.aloadN X234.here hx rfl (hb hby d32_110) rfl rfl ?_
  exact k_)
 have f237 := ((f218.ext E222).other W234 (Or.inl ne_a1_b135))
 obtain ⟨T238, X238, e238, st238⟩ := getF X234 hx hZ hown (host := "") (Or.inl (own_w hw 276 rfl)) Via.refl e234 f237 (g := (mkF m 111 #[.val (.ref a1), .val (.ref a2), .val (.int (0 : Int32)), .val (.int (2 : Int32)), .val (.int (0 : Int32)), .val (.int (2 : Int32)), .val (.int (0 : Int32))] [(.ref a1)])) rfl rfl (hb hby d32_111)
 have p239 : Go p.tables e below _ (T238.setTop (mkF m 116 #[.val (.ref a1), .val (.ref a2), .val (.int (0 : Int32)), .val (.int (2 : Int32)), .val (.int (0 : Int32)), .val (.int (2 : Int32)), .val (.int (0 : Int32))] [(.int (0 : Int32)), (.ref b135)])) := fun t_ k_ => (gc p236 st238) t_ (by
  refine XS.iload X238.here hx rfl (hb hby d32_114) rfl ?_
  exact k_)
 obtain ⟨cl240, Ar240, q240, S240, Ng240, H240, G240⟩ := id V234
 have hin240 := inb_of S240 (j := (0 : Int32)) ⟨by decide, by decide⟩
 have hat240 := H240.at (v := (.ref b222)) hin240 rfl
 have p241 : Go p.tables e below _ (T238.setTop (mkF m 123 #[.val (.ref a1), .val (.ref a2), .val (.int (0 : Int32)), .val (.int (2 : Int32)), .val (.int (0 : Int32)), .val (.int (2 : Int32)), .val (.int (0 : Int32))] [(.int (0 : Int32)), (.ref b222), (.int (0 : Int32)), (.ref b222)])) := fun t_ k_ => p239 t_ (by
  refine X238.aaload hx (j := (0 : Int32)) (v := (.ref b222)) (by rw [e238]; exact Ar240.1) (State.isArrayOf_alike hZ.alike Ar240.2.1) rfl Ar240.2.2 hin240 hat240 (g := (mkF m 116 #[.val (.ref a1), .val (.ref a2), .val (.int (0 : Int32)), .val (.int (2 : Int32)), .val (.int (0 : Int32)), .val (.int (2 : Int32)), .val (.int (0 : Int32))] [(.int (0 : Int32)), (.ref b135)])) rfl rfl (hb hby d32_116) _ ?_
  refine XS.iload X238.here hx rfl (hb hby d32_117) rfl ?_
  refine XS.bipush X238.here hx rfl (hb hby d32_119) ?_
  refine XS.iushr X238.here hx rfl (hb hby d32_121) rfl ?_
  jvm_step X238.here [X238.here.top, hx, (hb hby d32_122), Value.category]
  show Steps p.tables e below (T238.setTop (mkF m 123 #[.val (.ref a1), .val (.ref a2), .val (.int (0 : Int32)), .val (.int (2 : Int32)), .val (.int (0 : Int32)), .val (.int (2 : Int32)), .val (.int (0 : Int32))] [(.int (0 : Int32)), (.ref b222), (.int (0 : Int32)), (.ref b222)])) _
  exact k_)
 have f243 := (V222.other W234 (Ne.symm ne_b135_b222))
 obtain ⟨cl242, Ar242, q242, S242, Ng242, H242, G242⟩ := id f243
 have hin242 := inb_of S242 (j := (0 : Int32)) ⟨by decide, by decide⟩
 have hat242 := H242.at (v := (.long (0 : Int64))) hin242 rfl
 have p244 : Go p.tables e below _ (T238.setTop (mkF m 129 #[.val (.ref a1), .val (.ref a2), .val (.int (0 : Int32)), .val (.int (2 : Int32)), .val (.int (0 : Int32)), .val (.int (2 : Int32)), .val (.int (0 : Int32))] [(.long (1 : Int64)), (.int (0 : Int32)), (.ref b222)])) := fun t_ k_ => p241 t_ (by
  refine X238.laload hx (j := (0 : Int32)) (v := (.long (0 : Int64))) (by rw [e238]; exact Ar242.1) (State.isArrayOf_alike hZ.alike Ar242.2.1) Ar242.2.2 hin242 hat242 (g := (mkF m 123 #[.val (.ref a1), .val (.ref a2), .val (.int (0 : Int32)), .val (.int (2 : Int32)), .val (.int (0 : Int32)), .val (.int (2 : Int32)), .val (.int (0 : Int32))] [(.int (0 : Int32)), (.ref b222), (.int (0 : Int32)), (.ref b222)])) rfl rfl (hb hby d32_123) _ ?_
  refine XS.lconst X238.here hx rfl (hb hby d32_124) ?_
  refine XS.iload X238.here hx rfl (hb hby d32_125) rfl ?_
  refine XS.lshl X238.here hx rfl (hb hby d32_127) rfl ?_
  refine XS.lor X238.here hx rfl (hb hby d32_128) rfl ?_
  exact k_)
 obtain ⟨cl245, Ar245, q245, S245, Ng245, H245, G245⟩ := id f243
 have hin245 := inb_of S245 (j := (0 : Int32)) ⟨by decide, by decide⟩
 obtain ⟨T245, h245, X245, e245, W245, st245⟩ := stJ X238 hx hZ e238 Ar245 (j := (0 : Int32)) hin245 (g := (mkF m 129 #[.val (.ref a1), .val (.ref a2), .val (.int (0 : Int32)), .val (.int (2 : Int32)), .val (.int (0 : Int32)), .val (.int (2 : Int32)), .val (.int (0 : Int32))] [(.long (1 : Int64)), (.int (0 : Int32)), (.ref b222)])) rfl rfl (hb hby d32_129)
 have K246 : Keep h0 h245 [a1] := K235.wr W245 (Or.inr sz_b222)
 have N245 := Fr.snoc X245 N234 ge_b222
 have V245 : Arv Z h245 b222 k222 .long (1 : Int32) [(.long (1 : Int64))] (.long (0 : Int64)) := Arv.set Ar245 q245 S245 Ng245 H245 G245 rfl W245 0 rfl (Nat.le_of_ble_eq_true rfl)
 have p247 : Go p.tables e below _ (T245.setTop (mkF m 111 #[.val (.ref a1), .val (.ref a2), .val (.int (0 : Int32)), .val (.int (2 : Int32)), .val (.int (0 : Int32)), .val (.int (2 : Int32)), .val (.int (1 : Int32))] [(.ref a1)])) := fun t_ k_ => (gc p244 st245) t_ (by
  refine XS.iinc X245.here hx rfl (hb hby d32_130) rfl (l' := #[.val (.ref a1), .val (.ref a2), .val (.int (0 : Int32)), .val (.int (2 : Int32)), .val (.int (0 : Int32)), .val (.int (2 : Int32)), .val (.int (1 : Int32))]) rfl ?_
  refine XS.goto X245.here hx rfl (pc0 := 133) (pc' := 103) rfl (hb hby d32_133) (by decide) (by decide) ?_
  refine XS.iload X245.here hx rfl (hb hby d32_103) rfl ?_
  refine XS.iload X245.here hx rfl (hb hby d32_105) rfl ?_
  refine XS.icmpNo X245.here hx rfl (hb hby d32_107) rfl (tlt (by decide : ((1 : Int32) < (2 : Int32)))).2.1 ?_
  refine XS.aloadN X245.here hx rfl (hb hby d32_110) rfl rfl ?_
  exact k_)
 have f248 := (f237.other W245 (Or.inl ne_a1_b222))
 obtain ⟨T249, X249, e249, st249⟩ := getF X245 hx hZ hown (host := "") (Or.inl (own_w hw 276 rfl)) Via.refl e245 f248 (g := (mkF m 111 #[.val (.ref a1), .val (.ref a2), .val (.int (0 : Int32)), .val (.int (2 : Int32)), .val (.int (0 : Int32)), .val (.int (2 : Int32)), .val (.int (1 : Int32))] [(.ref a1)])) rfl rfl (hb hby d32_111)
 have p250 : Go p.tables e below _ (T249.setTop (mkF m 116 #[.val (.ref a1), .val (.ref a2), .val (.int (0 : Int32)), .val (.int (2 : Int32)), .val (.int (0 : Int32)), .val (.int (2 : Int32)), .val (.int (1 : Int32))] [(.int (0 : Int32)), (.ref b135)])) := fun t_ k_ => (gc p247 st249) t_ (by
  refine XS.iload X249.here hx rfl (hb hby d32_114) rfl ?_
  exact k_)
 have f252 := (V234.other W245 ne_b135_b222)
 obtain ⟨cl251, Ar251, q251, S251, Ng251, H251, G251⟩ := id f252
 have hin251 := inb_of S251 (j := (0 : Int32)) ⟨by decide, by decide⟩
 have hat251 := H251.at (v := (.ref b222)) hin251 rfl
 have p253 : Go p.tables e below _ (T249.setTop (mkF m 123 #[.val (.ref a1), .val (.ref a2), .val (.int (0 : Int32)), .val (.int (2 : Int32)), .val (.int (0 : Int32)), .val (.int (2 : Int32)), .val (.int (1 : Int32))] [(.int (0 : Int32)), (.ref b222), (.int (0 : Int32)), (.ref b222)])) := fun t_ k_ => p250 t_ (by
  refine X249.aaload hx (j := (0 : Int32)) (v := (.ref b222)) (by rw [e249]; exact Ar251.1) (State.isArrayOf_alike hZ.alike Ar251.2.1) rfl Ar251.2.2 hin251 hat251 (g := (mkF m 116 #[.val (.ref a1), .val (.ref a2), .val (.int (0 : Int32)), .val (.int (2 : Int32)), .val (.int (0 : Int32)), .val (.int (2 : Int32)), .val (.int (1 : Int32))] [(.int (0 : Int32)), (.ref b135)])) rfl rfl (hb hby d32_116) _ ?_
  refine XS.iload X249.here hx rfl (hb hby d32_117) rfl ?_
  refine XS.bipush X249.here hx rfl (hb hby d32_119) ?_
  refine XS.iushr X249.here hx rfl (hb hby d32_121) rfl ?_
  jvm_step X249.here [X249.here.top, hx, (hb hby d32_122), Value.category]
  show Steps p.tables e below (T249.setTop (mkF m 123 #[.val (.ref a1), .val (.ref a2), .val (.int (0 : Int32)), .val (.int (2 : Int32)), .val (.int (0 : Int32)), .val (.int (2 : Int32)), .val (.int (1 : Int32))] [(.int (0 : Int32)), (.ref b222), (.int (0 : Int32)), (.ref b222)])) _
  exact k_)
 obtain ⟨cl254, Ar254, q254, S254, Ng254, H254, G254⟩ := id V245
 have hin254 := inb_of S254 (j := (0 : Int32)) ⟨by decide, by decide⟩
 have hat254 := H254.at (v := (.long (1 : Int64))) hin254 rfl
 have p255 : Go p.tables e below _ (T249.setTop (mkF m 129 #[.val (.ref a1), .val (.ref a2), .val (.int (0 : Int32)), .val (.int (2 : Int32)), .val (.int (0 : Int32)), .val (.int (2 : Int32)), .val (.int (1 : Int32))] [(.long (3 : Int64)), (.int (0 : Int32)), (.ref b222)])) := fun t_ k_ => p253 t_ (by
  refine X249.laload hx (j := (0 : Int32)) (v := (.long (1 : Int64))) (by rw [e249]; exact Ar254.1) (State.isArrayOf_alike hZ.alike Ar254.2.1) Ar254.2.2 hin254 hat254 (g := (mkF m 123 #[.val (.ref a1), .val (.ref a2), .val (.int (0 : Int32)), .val (.int (2 : Int32)), .val (.int (0 : Int32)), .val (.int (2 : Int32)), .val (.int (1 : Int32))] [(.int (0 : Int32)), (.ref b222), (.int (0 : Int32)), (.ref b222)])) rfl rfl (hb hby d32_123) _ ?_
  refine XS.lconst X249.here hx rfl (hb hby d32_124) ?_
  refine XS.iload X249.here hx rfl (hb hby d32_125) rfl ?_
  refine XS.lshl X249.here hx rfl (hb hby d32_127) rfl ?_
  refine XS.lor X249.here hx rfl (hb hby d32_128) rfl ?_
  exact k_)
 obtain ⟨cl256, Ar256, q256, S256, Ng256, H256, G256⟩ := id V245
 have hin256 := inb_of S256 (j := (0 : Int32)) ⟨by decide, by decide⟩
 obtain ⟨T256, h256, X256, e256, W256, st256⟩ := stJ X249 hx hZ e249 Ar256 (j := (0 : Int32)) hin256 (g := (mkF m 129 #[.val (.ref a1), .val (.ref a2), .val (.int (0 : Int32)), .val (.int (2 : Int32)), .val (.int (0 : Int32)), .val (.int (2 : Int32)), .val (.int (1 : Int32))] [(.long (3 : Int64)), (.int (0 : Int32)), (.ref b222)])) rfl rfl (hb hby d32_129)
 have K257 : Keep h0 h256 [a1] := K246.wr W256 (Or.inr sz_b222)
 have N256 := Fr.snoc X256 N245 ge_b222
 have V256 : Arv Z h256 b222 k222 .long (1 : Int32) [(.long (3 : Int64))] (.long (0 : Int64)) := Arv.set Ar256 q256 S256 Ng256 H256 G256 rfl W256 0 rfl (Nat.le_of_ble_eq_true rfl)
 have p258 : Go p.tables e below _ (T256.setTop (mkF m 137 #[.val (.ref a1), .val (.ref a2), .val (.int (0 : Int32)), .val (.int (2 : Int32)), .val (.int (0 : Int32)), .val (.int (2 : Int32)), .val (.int (2 : Int32))] [(.ref a1)])) := fun t_ k_ => (gc p255 st256) t_ (by
  refine XS.iinc X256.here hx rfl (hb hby d32_130) rfl (l' := #[.val (.ref a1), .val (.ref a2), .val (.int (0 : Int32)), .val (.int (2 : Int32)), .val (.int (0 : Int32)), .val (.int (2 : Int32)), .val (.int (2 : Int32))]) rfl ?_
  refine XS.goto X256.here hx rfl (pc0 := 133) (pc' := 103) rfl (hb hby d32_133) (by decide) (by decide) ?_
  refine XS.iload X256.here hx rfl (hb hby d32_103) rfl ?_
  refine XS.iload X256.here hx rfl (hb hby d32_105) rfl ?_
  refine XS.icmpYes X256.here hx rfl (pc0 := 107) (pc' := 136) rfl (hb hby d32_107) rfl (flt (by decide : ¬ ((2 : Int32) < (2 : Int32)))).2.1 (by decide) (by decide) ?_
  refine XS.aloadN X256.here hx rfl (hb hby d32_136) rfl rfl ?_
  exact k_)
 have f259 := ((((((((F163.ext E166).other W181 (Or.inr (slot_ne (Or.inr (own_w hw 279 rfl)) (Or.inr (own_w hw 281 rfl)) (by decide) (t := (.array .int)) (t' := (.array .int)) (by decide) (by decide)))).ext E184).other W200 (Or.inr (slot_ne (Or.inr (own_w hw 279 rfl)) (Or.inr (own_w hw 284 rfl)) (by decide) (t := (.array .int)) (t' := (.array .boolean)) (by decide) (by decide)))).ext E222).other W234 (Or.inl ne_a1_b135)).other W245 (Or.inl ne_a1_b222)).other W256 (Or.inl ne_a1_b222))
 obtain ⟨T260, X260, e260, st260⟩ := getF X256 hx hZ hown (host := "") (Or.inl (own_w hw 278 rfl)) Via.refl e256 f259 (g := (mkF m 137 #[.val (.ref a1), .val (.ref a2), .val (.int (0 : Int32)), .val (.int (2 : Int32)), .val (.int (0 : Int32)), .val (.int (2 : Int32)), .val (.int (2 : Int32))] [(.ref a1)])) rfl rfl (hb hby d32_137)
 have p261 : Go p.tables e below _ (T260.setTop (mkF m 144 #[.val (.ref a1), .val (.ref a2), .val (.int (0 : Int32)), .val (.int (2 : Int32)), .val (.int (0 : Int32)), .val (.int (2 : Int32)), .val (.int (2 : Int32))] [(.int (2 : Int32)), (.int (0 : Int32)), (.ref b149)])) := fun t_ k_ => (gc p258 st260) t_ (by
  refine XS.iload X260.here hx rfl (hb hby d32_140) rfl ?_
  refine XS.iload X260.here hx rfl (hb hby d32_142) rfl ?_
  exact k_)
 have f262 := (((((((((V149.other W163 (Ne.symm ne_a1_b149)).ext E166).other W181 (Ne.symm ne_a1_b149)).ext E184).other W200 (Ne.symm ne_a1_b149)).ext E222).other W234 (Ne.symm ne_b135_b149)).other W245 ne_b149_b222).other W256 ne_b149_b222)
 obtain ⟨cl263, Ar263, q263, S263, Ng263, H263, G263⟩ := id f262
 have hin263 := inb_of S263 (j := (0 : Int32)) ⟨by decide, by decide⟩
 obtain ⟨T263, h263, X263, e263, W263, st263⟩ := stI X260 hx hZ e260 Ar263 (j := (0 : Int32)) hin263 (g := (mkF m 144 #[.val (.ref a1), .val (.ref a2), .val (.int (0 : Int32)), .val (.int (2 : Int32)), .val (.int (0 : Int32)), .val (.int (2 : Int32)), .val (.int (2 : Int32))] [(.int (2 : Int32)), (.int (0 : Int32)), (.ref b149)])) rfl rfl (hb hby d32_144)
 have K264 : Keep h0 h263 [a1] := K257.wr W263 (Or.inr sz_b149)
 have N263 := Fr.snoc X263 N256 ge_b149
 have V263 : Arv Z h263 b149 k149 .int (2 : Int32) [(.int (2 : Int32)), (.int (0 : Int32))] (.int (0 : Int32)) := Arv.set Ar263 q263 S263 Ng263 H263 G263 rfl W263 0 rfl (Nat.le_of_ble_eq_true rfl)
 have p265 : Go p.tables e below _ (T263.setTop (mkF m 68 #[.val (.ref a1), .val (.ref a2), .val (.int (0 : Int32)), .val (.int (2 : Int32)), .val (.int (1 : Int32)), .val (.int (2 : Int32)), .val (.int (2 : Int32))] [(.ref a2)])) := fun t_ k_ => (gc p261 st263) t_ (by
  refine XS.iinc X263.here hx rfl (hb hby d32_145) rfl (l' := #[.val (.ref a1), .val (.ref a2), .val (.int (0 : Int32)), .val (.int (2 : Int32)), .val (.int (1 : Int32)), .val (.int (2 : Int32)), .val (.int (2 : Int32))]) rfl ?_
  refine XS.goto X263.here hx rfl (pc0 := 148) (pc' := 61) rfl (hb hby d32_148) (by decide) (by decide) ?_
  refine XS.iload X263.here hx rfl (hb hby d32_61) rfl ?_
  refine XS.iloadN X263.here hx rfl (hb hby d32_63) rfl ?_
  refine XS.icmpNo X263.here hx rfl (hb hby d32_64) rfl (tlt (by decide : ((1 : Int32) < (2 : Int32)))).2.1 ?_
  refine XS.aloadN X263.here hx rfl (hb hby d32_67) rfl rfl ?_
  exact k_)
 have f266 := (((((f203.ext E222).other W234 (Or.inl ne_a2_b135)).other W245 (Or.inl ne_a2_b222)).other W256 (Or.inl ne_a2_b222)).other W263 (Or.inl ne_a2_b149))
 have f268 := (((((f205.ext E222).wr W234).wr W245).wr W256).wr W263)
 obtain ⟨cq267, kq267, q267a, q267b, q267c⟩ := isOf hZ e263 f268
 obtain ⟨_, _, ⟨T267, L267, k267, n267⟩, -, X267, ⟨Lc267, hQ267, l267, y267, z267⟩, st267⟩ := X263.virtualBack hx (y := (⟨"com/example/arcward/arcward/model/Instance", "variables", "()Ljava/util/List;"⟩ : MethodName)) (z := (⟨"com/example/arcward/arcward/model/Instance", "variables", "()Ljava/util/List;"⟩ : MethodName)) hown (mvT hZ (own_w hw 268 rfl)) (mvT hZ (own_w hw 269 rfl)) (notFace_of_selects (args := #[]) (mvT hZ (own_w hw 271 rfl))) (mvT hZ (own_w hw 271 rfl)) (mvT hZ (own_w hw 270 rfl)) (by decide) (backOf (W := 0) (rm33 l Z a0 hw [] a2 vl h263 n0 (Nat.le_trans Z0 K264.1) f266) hZ (own_w hw 272 rfl) (own_w hw 94 rfl) (by decide) (by decide)) q267a q267c (g := (mkF m 68 #[.val (.ref a1), .val (.ref a2), .val (.int (0 : Int32)), .val (.int (2 : Int32)), .val (.int (1 : Int32)), .val (.int (2 : Int32)), .val (.int (2 : Int32))] [(.ref a2)])) rfl (by rw [hml]; rfl) (Steps.refl _) (argsL := []) (rest := []) (lenOf pd12 rfl) rfl (by show 2 * 0 + _ ≤ _; exact Nat.le_of_eq rfl) (hb hby d32_68) (fun _ _ => ⟨rfl, e263, (by decide : 7 + 0 ≤ _), (by decide : 105 + 0 ≤ _)⟩)
 dsimp only [Pt.U, Pt.locs, Pt.cells, Pt.slots] at X267 l267 y267 z267 st267 hQ267
 subst l267 y267 z267
 obtain ⟨rfl, N267q, q267_hh⟩ := hQ267
 have N267 := Fr.app N263 N267q
 have p269 : Go p.tables e below _ (T267.setTop (mkF m 73 #[.val (.ref a1), .val (.ref a2), .val (.int (0 : Int32)), .val (.int (2 : Int32)), .val (.int (1 : Int32)), .val (.int (2 : Int32)), .val (.int (2 : Int32))] [(.int (1 : Int32)), (.ref vl)])) := fun t_ k_ => (gcT p265 st267) t_ (by
  refine XS.iload X267.here hx rfl (hb hby d32_71) rfl ?_
  exact k_)
 have f270 := (((((f207.ext E222).wr W234 ge_b135).wr W245 ge_b222).wr W256 ge_b222).wr W263 ge_b149)
 have f271 := (((((f208.ext E222).wr W234).wr W245).wr W256).wr W263)
 have f272 := (((((f209.ext E222).other W234 (Or.inl ne_vl_b135)).other W245 (Or.inl ne_vl_b222)).other W256 (Or.inl ne_vl_b222)).other W263 (Or.inl ne_vl_b149))
 have f273 := (((((f210.ext E222).other W234 (Or.inl ne_vl_b135)).other W245 (Or.inl ne_vl_b222)).other W256 (Or.inl ne_vl_b222)).other W263 (Or.inl ne_vl_b149))
 obtain ⟨cq274, kq274, q274a, q274b, q274c⟩ := isOf hZ q267_hh f271
 obtain ⟨_, _, ⟨T274, L274, k274, n274⟩, -, X274, ⟨Lc274, hQ274, l274, y274, z274⟩, st274⟩ := X267.interfaceBack hx (xi := (⟨"java/util/List", "get", "(I)Ljava/lang/Object;"⟩ : MethodName)) (y := (⟨"java/util/ImmutableCollections$List12", "get", "(I)Ljava/lang/Object;"⟩ : MethodName)) hown (mvT hZ (own_w hw 285 rfl)) (mvT hZ (own_w hw 203 rfl)) (mvT hZ (own_w hw 204 rfl)) (mvT hZ (own_w hw 205 rfl)) (mvT hZ (own_w hw 206 rfl)) (mvT hZ (own_w hw 207 rfl)) (mvT hZ (own_w hw 208 rfl)) (mvT hZ (own_w hw 199 rfl)) (by decide) (backOf (W := 0) (rm26_1 l Z a0 hw [] vl x0 x1 de kde el ea kea em mr h263 n0 (Nat.le_trans Z0 K264.1) f270 G f271 f272 f273 gx) hZ (own_w hw 209 rfl) (own_w hw 157 rfl) (by decide) (by decide)) q274a q274b q274c (g := (mkF m 73 #[.val (.ref a1), .val (.ref a2), .val (.int (0 : Int32)), .val (.int (2 : Int32)), .val (.int (1 : Int32)), .val (.int (2 : Int32)), .val (.int (2 : Int32))] [(.int (1 : Int32)), (.ref vl)])) rfl (by rw [hml]; rfl) (Steps.refl _) (argsL := [(.int (1 : Int32))]) (rest := []) (lenOf pd15 rfl) rfl (by show 2 * 0 + _ ≤ _; exact Nat.le_of_eq rfl) (hb hby d32_73) (fun _ _ => ⟨rfl, q267_hh, (by decide : 7 + 0 ≤ _), (by decide : 105 + 0 ≤ _)⟩)
 dsimp only [Pt.U, Pt.locs, Pt.cells, Pt.slots] at X274 l274 y274 z274 st274 hQ274
 subst l274 y274 z274
 obtain ⟨rfl, N274q, q274_hh⟩ := hQ274
 have N274 := Fr.app N267 N274q
 have f275 := (((((f224.ext E222).wr W234).wr W245).wr W256).wr W263)
 obtain ⟨T276, X276, e276, st276⟩ := castY X274 hx hZ hown (own_w hw 286 rfl) q274_hh (Ins.self f275) (g := (mkF m 78 #[.val (.ref a1), .val (.ref a2), .val (.int (0 : Int32)), .val (.int (2 : Int32)), .val (.int (1 : Int32)), .val (.int (2 : Int32)), .val (.int (2 : Int32))] [(.ref x1)])) rfl rfl (hb hby d32_78)
 have f277 := (((((((((((((((((Y4.ext E104).other W108 (Or.inl (Ne.symm nx1))).ext E111).other W123 (Or.inl (Ne.symm nx1))).ext E135).other W146 (Or.inl (Ne.symm nx1))).ext E149).other W163 (Or.inl (Ne.symm nx1))).ext E166).other W181 (Or.inl (Ne.symm nx1))).ext E184).other W200 (Or.inl (Ne.symm nx1))).ext E222).other W234 (Or.inl ne_x1_b135)).other W245 (Or.inl ne_x1_b222)).other W256 (Or.inl ne_x1_b222)).other W263 (Or.inl ne_x1_b149))
 have f278 := (((((f225.ext E222).other W234 ne_v1_b135).other W245 ne_v1_b222).other W256 ne_v1_b222).other W263 ne_v1_b149)
 obtain ⟨cq279, kq279, q279a, q279b, q279c⟩ := isOf hZ e276 f275
 obtain ⟨_, _, ⟨T279, L279, k279, n279⟩, -, X279, ⟨Lc279, hQ279, l279, y279, z279⟩, st279⟩ := X276.virtualBack hx (y := (⟨"com/example/arcward/arcward/model/Variable", "size", "()I"⟩ : MethodName)) (z := (⟨"com/example/arcward/arcward/model/Variable", "size", "()I"⟩ : MethodName)) hown (mvT hZ (own_w hw 287 rfl)) (mvT hZ (own_w hw 288 rfl)) (notFace_of_selects (args := #[]) (mvT hZ (own_w hw 290 rfl))) (mvT hZ (own_w hw 290 rfl)) (mvT hZ (own_w hw 289 rfl)) (by decide) (backOf (W := 0) (rm34_2 l Z a0 hw [] x1 v1 kv1 [(.int (0 : Int32)), (.int (1 : Int32))] h263 n0 (Nat.le_trans Z0 K264.1) f277 f278) hZ (own_w hw 291 rfl) (own_w hw 28 rfl) (by decide) (by decide)) q279a q279c (g := (mkF m 81 #[.val (.ref a1), .val (.ref a2), .val (.int (0 : Int32)), .val (.int (2 : Int32)), .val (.int (1 : Int32)), .val (.int (2 : Int32)), .val (.int (2 : Int32))] [(.ref x1)])) rfl (by rw [hml]; rfl) (Steps.refl _) (argsL := []) (rest := []) (lenOf pd13 rfl) rfl (by show 2 * 0 + _ ≤ _; exact Nat.le_of_eq rfl) (hb hby d32_81) (fun _ _ => ⟨rfl, e276, (by decide : 7 + 0 ≤ _), (by decide : 105 + 0 ≤ _)⟩)
 dsimp only [Pt.U, Pt.locs, Pt.cells, Pt.slots] at X279 l279 y279 z279 st279 hQ279
 subst l279 y279 z279
 obtain ⟨rfl, N279q, q279_hh⟩ := hQ279
 have N279 := Fr.app N274 N279q
 have p280 : Go p.tables e below _ (T279.setTop (mkF m 87 #[.val (.ref a1), .val (.ref a2), .val (.int (0 : Int32)), .val (.int (2 : Int32)), .val (.int (1 : Int32)), .val (.int (2 : Int32)), .val (.int (2 : Int32))] [(.ref a1)])) := fun t_ k_ => (gcT (gc (gcT p269 st274) st276) st279) t_ (by
  refine XS.istore X279.here hx rfl (hb hby d32_84) rfl (l' := #[.val (.ref a1), .val (.ref a2), .val (.int (0 : Int32)), .val (.int (2 : Int32)), .val (.int (1 : Int32)), .val (.int (2 : Int32)), .val (.int (2 : Int32))]) rfl ?_
  refine XS.aloadN X279.here hx rfl (hb hby d32_86) rfl rfl ?_
  exact k_)
 have f281 := ((f248.other W256 (Or.inl ne_a1_b222)).other W263 (Or.inl ne_a1_b149))
 obtain ⟨T282, X282, e282, st282⟩ := getF X279 hx hZ hown (host := "") (Or.inl (own_w hw 276 rfl)) Via.refl q279_hh f281 (g := (mkF m 87 #[.val (.ref a1), .val (.ref a2), .val (.int (0 : Int32)), .val (.int (2 : Int32)), .val (.int (1 : Int32)), .val (.int (2 : Int32)), .val (.int (2 : Int32))] [(.ref a1)])) rfl rfl (hb hby d32_87)
 have p283 : Go p.tables e below _ (T282.setTop (mkF m 94 #[.val (.ref a1), .val (.ref a2), .val (.int (0 : Int32)), .val (.int (2 : Int32)), .val (.int (1 : Int32)), .val (.int (2 : Int32)), .val (.int (2 : Int32))] [(.int (2 : Int32)), (.int (1 : Int32)), (.ref b135)])) := fun t_ k_ => (gc p280 st282) t_ (by
  refine XS.iload X282.here hx rfl (hb hby d32_90) rfl ?_
  refine XS.iload X282.here hx rfl (hb hby d32_92) rfl ?_
  exact k_)
 obtain ⟨_, _, ⟨T284, L284, k284, n284⟩, -, X284, ⟨Lc284, hQ284, l284, y284, z284⟩, st284⟩ := Jvm.LawKit.callS X282 hx (y := (⟨"com/example/arcward/arcward/solver/Domains", "wordsFor", "(I)I"⟩ : MethodName)) hown (mvT hZ (own_w hw 292 rfl)) (mvT hZ (own_w hw 293 rfl)) (mvT hZ (own_w hw 91 rfl)) (mvT hZ (own_w hw 294 rfl)) (by decide) (backOf (W := 2) (rm35_2 l Z a0 hw []  h263 n0 (Nat.le_trans Z0 K264.1) ) hZ (own_w hw 294 rfl) (own_w hw 91 rfl) (by decide) (by decide)) (g := (mkF m 94 #[.val (.ref a1), .val (.ref a2), .val (.int (0 : Int32)), .val (.int (2 : Int32)), .val (.int (1 : Int32)), .val (.int (2 : Int32)), .val (.int (2 : Int32))] [(.int (2 : Int32)), (.int (1 : Int32)), (.ref b135)])) rfl (by rw [hml]; rfl) (argsL := [(.int (2 : Int32))]) (rest := [(.int (1 : Int32)), (.ref b135)]) (lenOf pd17 rfl) rfl (by show 2 * 0 + _ ≤ _; exact Nat.le_of_eq rfl) (hb hby d32_94) (fun _ _ => ⟨rfl, e282, (by decide : 7 + 0 ≤ _), (by decide : 105 + 0 ≤ _)⟩)
 dsimp only [Pt.U, Pt.locs, Pt.cells, Pt.slots] at X284 l284 y284 z284 st284 hQ284
 subst l284 y284 z284
 obtain ⟨rfl, N284q, q284_hh⟩ := hQ284
 have N284 := Fr.app N279 N284q
 obtain ⟨T285, h285, k285, X285, e285, E285, A285, AE285, st285⟩ := newPE X284 hx hZ (own_w hw 295 rfl) q284_hh (g := (mkF m 97 #[.val (.ref a1), .val (.ref a2), .val (.int (0 : Int32)), .val (.int (2 : Int32)), .val (.int (1 : Int32)), .val (.int (2 : Int32)), .val (.int (2 : Int32))] [(.int (1 : Int32)), (.int (1 : Int32)), (.ref b135)])) rfl (hb hby d32_97) rfl (by decide) (cap := 1) (by decide) (by decide) (by decide) (by decide) (ad := "[J") (by decide)
 obtain ⟨b285, g285⟩ : ∃ z, z = h263.size := ⟨_, rfl⟩
 rw [← g285] at A285 AE285 st285
 have f286 := (((((f223.ext E222).wr W234).wr W245).wr W256).wr W263)
 have ne_a1_b285 : a1 ≠ b285 := Nat.ne_of_lt (Nat.lt_of_lt_of_le f286.lt (Nat.le_of_eq g285.symm))
 have ne_a2_b285 : a2 ≠ b285 := Nat.ne_of_lt (Nat.lt_of_lt_of_le f268.lt (Nat.le_of_eq g285.symm))
 have ne_vl_b285 : vl ≠ b285 := Nat.ne_of_lt (Nat.lt_of_lt_of_le f271.lt (Nat.le_of_eq g285.symm))
 have f287 := (((((f212.ext E222).wr W234).wr W245).wr W256).wr W263)
 have ne_x0_b285 : x0 ≠ b285 := Nat.ne_of_lt (Nat.lt_of_lt_of_le f287.lt (Nat.le_of_eq g285.symm))
 have f288 := (((((f215.ext E222).other W234 ne_v0_b135).other W245 ne_v0_b222).other W256 ne_v0_b222).other W263 ne_v0_b149)
 have ne_v0_b285 : v0 ≠ b285 := Nat.ne_of_lt (Nat.lt_of_lt_of_le f288.lt (Nat.le_of_eq g285.symm))
 have ne_x1_b285 : x1 ≠ b285 := Nat.ne_of_lt (Nat.lt_of_lt_of_le f275.lt (Nat.le_of_eq g285.symm))
 have ne_v1_b285 : v1 ≠ b285 := Nat.ne_of_lt (Nat.lt_of_lt_of_le f278.lt (Nat.le_of_eq g285.symm))
 have f289 := (((((f226.ext E222).wr W234).wr W245).wr W256).wr W263)
 have ne_b104_b285 : b104 ≠ b285 := Nat.ne_of_lt (Nat.lt_of_lt_of_le f289.lt (Nat.le_of_eq g285.symm))
 have f290 := (((((f227.ext E222).wr W234).wr W245).wr W256).wr W263)
 have ne_b111_b285 : b111 ≠ b285 := Nat.ne_of_lt (Nat.lt_of_lt_of_le f290.lt (Nat.le_of_eq g285.symm))
 have f291 := (((((f228.ext E222).wr W234).wr W245).wr W256).wr W263)
 have ne_b135_b285 : b135 ≠ b285 := Nat.ne_of_lt (Nat.lt_of_lt_of_le f291.lt (Nat.le_of_eq g285.symm))
 have f292 := (((((f229.ext E222).wr W234).wr W245).wr W256).wr W263)
 have ne_b149_b285 : b149 ≠ b285 := Nat.ne_of_lt (Nat.lt_of_lt_of_le f292.lt (Nat.le_of_eq g285.symm))
 have f293 := (((((f230.ext E222).wr W234).wr W245).wr W256).wr W263)
 have ne_b166_b285 : b166 ≠ b285 := Nat.ne_of_lt (Nat.lt_of_lt_of_le f293.lt (Nat.le_of_eq g285.symm))
 have f294 := (((((f231.ext E222).wr W234).wr W245).wr W256).wr W263)
 have ne_b184_b285 : b184 ≠ b285 := Nat.ne_of_lt (Nat.lt_of_lt_of_le f294.lt (Nat.le_of_eq g285.symm))
 have f295 := ((((AE222.wr W234).wr W245).wr W256).wr W263)
 have ne_b222_b285 : b222 ≠ b285 := Nat.ne_of_lt (Nat.lt_of_lt_of_le f295.lt (Nat.le_of_eq g285.symm))
 have ge_b285 : n0 ≤ b285 := Nat.le_trans (Nat.le_trans Z0 K264.1) (Nat.le_of_eq g285.symm)
 have sz_b285 : h0.size ≤ b285 := Nat.le_trans K264.1 (Nat.le_of_eq g285.symm)
 have K296 : Keep h0 h285 [a1] := K264.ext E285
 have V285 : Arv Z h285 b285 k285 .long (1 : Int32) [(.long (0 : Int64))] (.long (0 : Int64)) := (Arv.new A285 (by decide)).pad (pad_rep [] (.long (0 : Int64)) 1)
 have f297 := (((f252.other W256 ne_b135_b222).other W263 ne_b135_b149).ext E285)
 obtain ⟨cl298, Ar298, q298, S298, Ng298, H298, G298⟩ := id f297
 have hin298 := inb_of S298 (j := (1 : Int32)) ⟨by decide, by decide⟩
 obtain ⟨T298, h298, X298, e298, W298, st298⟩ := stR X285 hx hZ e285 Ar298 (j := (1 : Int32)) hin298 rfl (Sto.ofVA Ar298 q298 O135 (Ins.self AE285)) (g := (mkF m 99 #[.val (.ref a1), .val (.ref a2), .val (.int (0 : Int32)), .val (.int (2 : Int32)), .val (.int (1 : Int32)), .val (.int (2 : Int32)), .val (.int (2 : Int32))] [(.ref b285), (.int (1 : Int32)), (.ref b135)])) rfl rfl (hb hby d32_99)
 have K299 : Keep h0 h298 [a1] := K296.wr W298 (Or.inr sz_b135)
 have N298 := Fr.snoc X298 N284 ge_b135
 have V298 : Arv Z h298 b135 k135 (.array .long) (2 : Int32) [(.ref b222), (.ref b285)] .null := Arv.set Ar298 q298 S298 Ng298 H298 G298 rfl W298 1 rfl (Nat.le_of_ble_eq_true rfl)
 have p300 : Go p.tables e below _ (T298.setTop (mkF m 111 #[.val (.ref a1), .val (.ref a2), .val (.int (0 : Int32)), .val (.int (2 : Int32)), .val (.int (1 : Int32)), .val (.int (2 : Int32)), .val (.int (0 : Int32))] [(.ref a1)])) := fun t_ k_ => (gc (gc (gc p283 st284) st285) st298) t_ (by
  refine XS.iconst X298.here hx rfl (hb hby d32_100) ?_
  refine XS.istore X298.here hx rfl (hb hby d32_101) rfl (l' := #[.val (.ref a1), .val (.ref a2), .val (.int (0 : Int32)), .val (.int (2 : Int32)), .val (.int (1 : Int32)), .val (.int (2 : Int32)), .val (.int (0 : Int32))]) rfl ?_
  refine XS.iload X298.here hx rfl (hb hby d32_103) rfl ?_
  refine XS.iload X298.here hx rfl (hb hby d32_105) rfl ?_
  refine XS.icmpNo X298.here hx rfl (hb hby d32_107) rfl (tlt (by decide : ((0 : Int32) < (2 : Int32)))).2.1 ?_
  refine XS.aloadN X298.here hx rfl (hb hby d32_110) rfl rfl ?_
  exact k_)
 have f301 := ((f281.ext E285).other W298 (Or.inl ne_a1_b135))
 obtain ⟨T302, X302, e302, st302⟩ := getF X298 hx hZ hown (host := "") (Or.inl (own_w hw 276 rfl)) Via.refl e298 f301 (g := (mkF m 111 #[.val (.ref a1), .val (.ref a2), .val (.int (0 : Int32)), .val (.int (2 : Int32)), .val (.int (1 : Int32)), .val (.int (2 : Int32)), .val (.int (0 : Int32))] [(.ref a1)])) rfl rfl (hb hby d32_111)
 have p303 : Go p.tables e below _ (T302.setTop (mkF m 116 #[.val (.ref a1), .val (.ref a2), .val (.int (0 : Int32)), .val (.int (2 : Int32)), .val (.int (1 : Int32)), .val (.int (2 : Int32)), .val (.int (0 : Int32))] [(.int (1 : Int32)), (.ref b135)])) := fun t_ k_ => (gc p300 st302) t_ (by
  refine XS.iload X302.here hx rfl (hb hby d32_114) rfl ?_
  exact k_)
 obtain ⟨cl304, Ar304, q304, S304, Ng304, H304, G304⟩ := id V298
 have hin304 := inb_of S304 (j := (1 : Int32)) ⟨by decide, by decide⟩
 have hat304 := H304.at (v := (.ref b285)) hin304 rfl
 have p305 : Go p.tables e below _ (T302.setTop (mkF m 123 #[.val (.ref a1), .val (.ref a2), .val (.int (0 : Int32)), .val (.int (2 : Int32)), .val (.int (1 : Int32)), .val (.int (2 : Int32)), .val (.int (0 : Int32))] [(.int (0 : Int32)), (.ref b285), (.int (0 : Int32)), (.ref b285)])) := fun t_ k_ => p303 t_ (by
  refine X302.aaload hx (j := (1 : Int32)) (v := (.ref b285)) (by rw [e302]; exact Ar304.1) (State.isArrayOf_alike hZ.alike Ar304.2.1) rfl Ar304.2.2 hin304 hat304 (g := (mkF m 116 #[.val (.ref a1), .val (.ref a2), .val (.int (0 : Int32)), .val (.int (2 : Int32)), .val (.int (1 : Int32)), .val (.int (2 : Int32)), .val (.int (0 : Int32))] [(.int (1 : Int32)), (.ref b135)])) rfl rfl (hb hby d32_116) _ ?_
  refine XS.iload X302.here hx rfl (hb hby d32_117) rfl ?_
  refine XS.bipush X302.here hx rfl (hb hby d32_119) ?_
  refine XS.iushr X302.here hx rfl (hb hby d32_121) rfl ?_
  jvm_step X302.here [X302.here.top, hx, (hb hby d32_122), Value.category]
  show Steps p.tables e below (T302.setTop (mkF m 123 #[.val (.ref a1), .val (.ref a2), .val (.int (0 : Int32)), .val (.int (2 : Int32)), .val (.int (1 : Int32)), .val (.int (2 : Int32)), .val (.int (0 : Int32))] [(.int (0 : Int32)), (.ref b285), (.int (0 : Int32)), (.ref b285)])) _
  exact k_)
 have f307 := (V285.other W298 (Ne.symm ne_b135_b285))
 obtain ⟨cl306, Ar306, q306, S306, Ng306, H306, G306⟩ := id f307
 have hin306 := inb_of S306 (j := (0 : Int32)) ⟨by decide, by decide⟩
 have hat306 := H306.at (v := (.long (0 : Int64))) hin306 rfl
 have p308 : Go p.tables e below _ (T302.setTop (mkF m 129 #[.val (.ref a1), .val (.ref a2), .val (.int (0 : Int32)), .val (.int (2 : Int32)), .val (.int (1 : Int32)), .val (.int (2 : Int32)), .val (.int (0 : Int32))] [(.long (1 : Int64)), (.int (0 : Int32)), (.ref b285)])) := fun t_ k_ => p305 t_ (by
  refine X302.laload hx (j := (0 : Int32)) (v := (.long (0 : Int64))) (by rw [e302]; exact Ar306.1) (State.isArrayOf_alike hZ.alike Ar306.2.1) Ar306.2.2 hin306 hat306 (g := (mkF m 123 #[.val (.ref a1), .val (.ref a2), .val (.int (0 : Int32)), .val (.int (2 : Int32)), .val (.int (1 : Int32)), .val (.int (2 : Int32)), .val (.int (0 : Int32))] [(.int (0 : Int32)), (.ref b285), (.int (0 : Int32)), (.ref b285)])) rfl rfl (hb hby d32_123) _ ?_
  refine XS.lconst X302.here hx rfl (hb hby d32_124) ?_
  refine XS.iload X302.here hx rfl (hb hby d32_125) rfl ?_
  refine XS.lshl X302.here hx rfl (hb hby d32_127) rfl ?_
  refine XS.lor X302.here hx rfl (hb hby d32_128) rfl ?_
  exact k_)
 obtain ⟨cl309, Ar309, q309, S309, Ng309, H309, G309⟩ := id f307
 have hin309 := inb_of S309 (j := (0 : Int32)) ⟨by decide, by decide⟩
 obtain ⟨T309, h309, X309, e309, W309, st309⟩ := stJ X302 hx hZ e302 Ar309 (j := (0 : Int32)) hin309 (g := (mkF m 129 #[.val (.ref a1), .val (.ref a2), .val (.int (0 : Int32)), .val (.int (2 : Int32)), .val (.int (1 : Int32)), .val (.int (2 : Int32)), .val (.int (0 : Int32))] [(.long (1 : Int64)), (.int (0 : Int32)), (.ref b285)])) rfl rfl (hb hby d32_129)
 have K310 : Keep h0 h309 [a1] := K299.wr W309 (Or.inr sz_b285)
 have N309 := Fr.snoc X309 N298 ge_b285
 have V309 : Arv Z h309 b285 k285 .long (1 : Int32) [(.long (1 : Int64))] (.long (0 : Int64)) := Arv.set Ar309 q309 S309 Ng309 H309 G309 rfl W309 0 rfl (Nat.le_of_ble_eq_true rfl)
 have p311 : Go p.tables e below _ (T309.setTop (mkF m 111 #[.val (.ref a1), .val (.ref a2), .val (.int (0 : Int32)), .val (.int (2 : Int32)), .val (.int (1 : Int32)), .val (.int (2 : Int32)), .val (.int (1 : Int32))] [(.ref a1)])) := fun t_ k_ => (gc p308 st309) t_ (by
  refine XS.iinc X309.here hx rfl (hb hby d32_130) rfl (l' := #[.val (.ref a1), .val (.ref a2), .val (.int (0 : Int32)), .val (.int (2 : Int32)), .val (.int (1 : Int32)), .val (.int (2 : Int32)), .val (.int (1 : Int32))]) rfl ?_
  refine XS.goto X309.here hx rfl (pc0 := 133) (pc' := 103) rfl (hb hby d32_133) (by decide) (by decide) ?_
  refine XS.iload X309.here hx rfl (hb hby d32_103) rfl ?_
  refine XS.iload X309.here hx rfl (hb hby d32_105) rfl ?_
  refine XS.icmpNo X309.here hx rfl (hb hby d32_107) rfl (tlt (by decide : ((1 : Int32) < (2 : Int32)))).2.1 ?_
  refine XS.aloadN X309.here hx rfl (hb hby d32_110) rfl rfl ?_
  exact k_)
 have f312 := (f301.other W309 (Or.inl ne_a1_b285))
 obtain ⟨T313, X313, e313, st313⟩ := getF X309 hx hZ hown (host := "") (Or.inl (own_w hw 276 rfl)) Via.refl e309 f312 (g := (mkF m 111 #[.val (.ref a1), .val (.ref a2), .val (.int (0 : Int32)), .val (.int (2 : Int32)), .val (.int (1 : Int32)), .val (.int (2 : Int32)), .val (.int (1 : Int32))] [(.ref a1)])) rfl rfl (hb hby d32_111)
 have p314 : Go p.tables e below _ (T313.setTop (mkF m 116 #[.val (.ref a1), .val (.ref a2), .val (.int (0 : Int32)), .val (.int (2 : Int32)), .val (.int (1 : Int32)), .val (.int (2 : Int32)), .val (.int (1 : Int32))] [(.int (1 : Int32)), (.ref b135)])) := fun t_ k_ => (gc p311 st313) t_ (by
  refine XS.iload X313.here hx rfl (hb hby d32_114) rfl ?_
  exact k_)
 have f316 := (V298.other W309 ne_b135_b285)
 obtain ⟨cl315, Ar315, q315, S315, Ng315, H315, G315⟩ := id f316
 have hin315 := inb_of S315 (j := (1 : Int32)) ⟨by decide, by decide⟩
 have hat315 := H315.at (v := (.ref b285)) hin315 rfl
 have p317 : Go p.tables e below _ (T313.setTop (mkF m 123 #[.val (.ref a1), .val (.ref a2), .val (.int (0 : Int32)), .val (.int (2 : Int32)), .val (.int (1 : Int32)), .val (.int (2 : Int32)), .val (.int (1 : Int32))] [(.int (0 : Int32)), (.ref b285), (.int (0 : Int32)), (.ref b285)])) := fun t_ k_ => p314 t_ (by
  refine X313.aaload hx (j := (1 : Int32)) (v := (.ref b285)) (by rw [e313]; exact Ar315.1) (State.isArrayOf_alike hZ.alike Ar315.2.1) rfl Ar315.2.2 hin315 hat315 (g := (mkF m 116 #[.val (.ref a1), .val (.ref a2), .val (.int (0 : Int32)), .val (.int (2 : Int32)), .val (.int (1 : Int32)), .val (.int (2 : Int32)), .val (.int (1 : Int32))] [(.int (1 : Int32)), (.ref b135)])) rfl rfl (hb hby d32_116) _ ?_
  refine XS.iload X313.here hx rfl (hb hby d32_117) rfl ?_
  refine XS.bipush X313.here hx rfl (hb hby d32_119) ?_
  refine XS.iushr X313.here hx rfl (hb hby d32_121) rfl ?_
  jvm_step X313.here [X313.here.top, hx, (hb hby d32_122), Value.category]
  show Steps p.tables e below (T313.setTop (mkF m 123 #[.val (.ref a1), .val (.ref a2), .val (.int (0 : Int32)), .val (.int (2 : Int32)), .val (.int (1 : Int32)), .val (.int (2 : Int32)), .val (.int (1 : Int32))] [(.int (0 : Int32)), (.ref b285), (.int (0 : Int32)), (.ref b285)])) _
  exact k_)
 obtain ⟨cl318, Ar318, q318, S318, Ng318, H318, G318⟩ := id V309
 have hin318 := inb_of S318 (j := (0 : Int32)) ⟨by decide, by decide⟩
 have hat318 := H318.at (v := (.long (1 : Int64))) hin318 rfl
 have p319 : Go p.tables e below _ (T313.setTop (mkF m 129 #[.val (.ref a1), .val (.ref a2), .val (.int (0 : Int32)), .val (.int (2 : Int32)), .val (.int (1 : Int32)), .val (.int (2 : Int32)), .val (.int (1 : Int32))] [(.long (3 : Int64)), (.int (0 : Int32)), (.ref b285)])) := fun t_ k_ => p317 t_ (by
  refine X313.laload hx (j := (0 : Int32)) (v := (.long (1 : Int64))) (by rw [e313]; exact Ar318.1) (State.isArrayOf_alike hZ.alike Ar318.2.1) Ar318.2.2 hin318 hat318 (g := (mkF m 123 #[.val (.ref a1), .val (.ref a2), .val (.int (0 : Int32)), .val (.int (2 : Int32)), .val (.int (1 : Int32)), .val (.int (2 : Int32)), .val (.int (1 : Int32))] [(.int (0 : Int32)), (.ref b285), (.int (0 : Int32)), (.ref b285)])) rfl rfl (hb hby d32_123) _ ?_
  refine XS.lconst X313.here hx rfl (hb hby d32_124) ?_
  refine XS.iload X313.here hx rfl (hb hby d32_125) rfl ?_
  refine XS.lshl X313.here hx rfl (hb hby d32_127) rfl ?_
  refine XS.lor X313.here hx rfl (hb hby d32_128) rfl ?_
  exact k_)
 obtain ⟨cl320, Ar320, q320, S320, Ng320, H320, G320⟩ := id V309
 have hin320 := inb_of S320 (j := (0 : Int32)) ⟨by decide, by decide⟩
 obtain ⟨T320, h320, X320, e320, W320, st320⟩ := stJ X313 hx hZ e313 Ar320 (j := (0 : Int32)) hin320 (g := (mkF m 129 #[.val (.ref a1), .val (.ref a2), .val (.int (0 : Int32)), .val (.int (2 : Int32)), .val (.int (1 : Int32)), .val (.int (2 : Int32)), .val (.int (1 : Int32))] [(.long (3 : Int64)), (.int (0 : Int32)), (.ref b285)])) rfl rfl (hb hby d32_129)
 have K321 : Keep h0 h320 [a1] := K310.wr W320 (Or.inr sz_b285)
 have N320 := Fr.snoc X320 N309 ge_b285
 have V320 : Arv Z h320 b285 k285 .long (1 : Int32) [(.long (3 : Int64))] (.long (0 : Int64)) := Arv.set Ar320 q320 S320 Ng320 H320 G320 rfl W320 0 rfl (Nat.le_of_ble_eq_true rfl)
 have p322 : Go p.tables e below _ (T320.setTop (mkF m 137 #[.val (.ref a1), .val (.ref a2), .val (.int (0 : Int32)), .val (.int (2 : Int32)), .val (.int (1 : Int32)), .val (.int (2 : Int32)), .val (.int (2 : Int32))] [(.ref a1)])) := fun t_ k_ => (gc p319 st320) t_ (by
  refine XS.iinc X320.here hx rfl (hb hby d32_130) rfl (l' := #[.val (.ref a1), .val (.ref a2), .val (.int (0 : Int32)), .val (.int (2 : Int32)), .val (.int (1 : Int32)), .val (.int (2 : Int32)), .val (.int (2 : Int32))]) rfl ?_
  refine XS.goto X320.here hx rfl (pc0 := 133) (pc' := 103) rfl (hb hby d32_133) (by decide) (by decide) ?_
  refine XS.iload X320.here hx rfl (hb hby d32_103) rfl ?_
  refine XS.iload X320.here hx rfl (hb hby d32_105) rfl ?_
  refine XS.icmpYes X320.here hx rfl (pc0 := 107) (pc' := 136) rfl (hb hby d32_107) rfl (flt (by decide : ¬ ((2 : Int32) < (2 : Int32)))).2.1 (by decide) (by decide) ?_
  refine XS.aloadN X320.here hx rfl (hb hby d32_136) rfl rfl ?_
  exact k_)
 have f323 := (((((f259.other W263 (Or.inl ne_a1_b149)).ext E285).other W298 (Or.inl ne_a1_b135)).other W309 (Or.inl ne_a1_b285)).other W320 (Or.inl ne_a1_b285))
 obtain ⟨T324, X324, e324, st324⟩ := getF X320 hx hZ hown (host := "") (Or.inl (own_w hw 278 rfl)) Via.refl e320 f323 (g := (mkF m 137 #[.val (.ref a1), .val (.ref a2), .val (.int (0 : Int32)), .val (.int (2 : Int32)), .val (.int (1 : Int32)), .val (.int (2 : Int32)), .val (.int (2 : Int32))] [(.ref a1)])) rfl rfl (hb hby d32_137)
 have p325 : Go p.tables e below _ (T324.setTop (mkF m 144 #[.val (.ref a1), .val (.ref a2), .val (.int (0 : Int32)), .val (.int (2 : Int32)), .val (.int (1 : Int32)), .val (.int (2 : Int32)), .val (.int (2 : Int32))] [(.int (2 : Int32)), (.int (1 : Int32)), (.ref b149)])) := fun t_ k_ => (gc p322 st324) t_ (by
  refine XS.iload X324.here hx rfl (hb hby d32_140) rfl ?_
  refine XS.iload X324.here hx rfl (hb hby d32_142) rfl ?_
  exact k_)
 have f326 := ((((V263.ext E285).other W298 (Ne.symm ne_b135_b149)).other W309 ne_b149_b285).other W320 ne_b149_b285)
 obtain ⟨cl327, Ar327, q327, S327, Ng327, H327, G327⟩ := id f326
 have hin327 := inb_of S327 (j := (1 : Int32)) ⟨by decide, by decide⟩
 obtain ⟨T327, h327, X327, e327, W327, st327⟩ := stI X324 hx hZ e324 Ar327 (j := (1 : Int32)) hin327 (g := (mkF m 144 #[.val (.ref a1), .val (.ref a2), .val (.int (0 : Int32)), .val (.int (2 : Int32)), .val (.int (1 : Int32)), .val (.int (2 : Int32)), .val (.int (2 : Int32))] [(.int (2 : Int32)), (.int (1 : Int32)), (.ref b149)])) rfl rfl (hb hby d32_144)
 have K328 : Keep h0 h327 [a1] := K321.wr W327 (Or.inr sz_b149)
 have N327 := Fr.snoc X327 N320 ge_b149
 have V327 : Arv Z h327 b149 k149 .int (2 : Int32) [(.int (2 : Int32)), (.int (2 : Int32))] (.int (0 : Int32)) := Arv.set Ar327 q327 S327 Ng327 H327 G327 rfl W327 1 rfl (Nat.le_of_ble_eq_true rfl)
 have p329 : Go p.tables e below _ (T327.setTop (mkF m 151 #[.val (.ref a1), .val (.ref a2), .val (.int (0 : Int32)), .val (.int (2 : Int32)), .val (.int (2 : Int32)), .val (.int (2 : Int32)), .val (.int (2 : Int32))] [])) := fun t_ k_ => (gc p325 st327) t_ (by
  refine XS.iinc X327.here hx rfl (hb hby d32_145) rfl (l' := #[.val (.ref a1), .val (.ref a2), .val (.int (0 : Int32)), .val (.int (2 : Int32)), .val (.int (2 : Int32)), .val (.int (2 : Int32)), .val (.int (2 : Int32))]) rfl ?_
  refine XS.goto X327.here hx rfl (pc0 := 148) (pc' := 61) rfl (hb hby d32_148) (by decide) (by decide) ?_
  refine XS.iload X327.here hx rfl (hb hby d32_61) rfl ?_
  refine XS.iloadN X327.here hx rfl (hb hby d32_63) rfl ?_
  refine XS.icmpYes X327.here hx rfl (pc0 := 64) (pc' := 151) rfl (hb hby d32_64) rfl (flt (by decide : ¬ ((2 : Int32) < (2 : Int32)))).2.1 (by decide) (by decide) ?_
  exact k_)
 have f330 := (((((f286.ext E285).wr W298).wr W309).wr W320).wr W327)
 have f331 := ((((((((((((((((((((F108.ext E111).other W123 (Or.inr (slot_ne (Or.inl (own_w hw 265 rfl)) (Or.inr (own_w hw 267 rfl)) (by decide) (t := (.array .int)) (t' := (.array .int)) (by decide) (by decide)))).ext E135).other W146 (Or.inr (slot_ne (Or.inl (own_w hw 265 rfl)) (Or.inr (own_w hw 277 rfl)) (by decide) (t := (.array .int)) (t' := (.array (.array .long))) (by decide) (by decide)))).ext E149).other W163 (Or.inr (slot_ne (Or.inl (own_w hw 265 rfl)) (Or.inr (own_w hw 279 rfl)) (by decide) (t := (.array .int)) (t' := (.array .int)) (by decide) (by decide)))).ext E166).other W181 (Or.inr (slot_ne (Or.inl (own_w hw 265 rfl)) (Or.inr (own_w hw 281 rfl)) (by decide) (t := (.array .int)) (t' := (.array .int)) (by decide) (by decide)))).ext E184).other W200 (Or.inr (slot_ne (Or.inl (own_w hw 265 rfl)) (Or.inr (own_w hw 284 rfl)) (by decide) (t := (.array .int)) (t' := (.array .boolean)) (by decide) (by decide)))).ext E222).other W234 (Or.inl ne_a1_b135)).other W245 (Or.inl ne_a1_b222)).other W256 (Or.inl ne_a1_b222)).other W263 (Or.inl ne_a1_b149)).ext E285).other W298 (Or.inl ne_a1_b135)).other W309 (Or.inl ne_a1_b285)).other W320 (Or.inl ne_a1_b285)).other W327 (Or.inl ne_a1_b149))
 have f332 := ((((((((((((((((((F123.ext E135).other W146 (Or.inr (slot_ne (Or.inr (own_w hw 267 rfl)) (Or.inr (own_w hw 277 rfl)) (by decide) (t := (.array .int)) (t' := (.array (.array .long))) (by decide) (by decide)))).ext E149).other W163 (Or.inr (slot_ne (Or.inr (own_w hw 267 rfl)) (Or.inr (own_w hw 279 rfl)) (by decide) (t := (.array .int)) (t' := (.array .int)) (by decide) (by decide)))).ext E166).other W181 (Or.inr (slot_ne (Or.inr (own_w hw 267 rfl)) (Or.inr (own_w hw 281 rfl)) (by decide) (t := (.array .int)) (t' := (.array .int)) (by decide) (by decide)))).ext E184).other W200 (Or.inr (slot_ne (Or.inr (own_w hw 267 rfl)) (Or.inr (own_w hw 284 rfl)) (by decide) (t := (.array .int)) (t' := (.array .boolean)) (by decide) (by decide)))).ext E222).other W234 (Or.inl ne_a1_b135)).other W245 (Or.inl ne_a1_b222)).other W256 (Or.inl ne_a1_b222)).other W263 (Or.inl ne_a1_b149)).ext E285).other W298 (Or.inl ne_a1_b135)).other W309 (Or.inl ne_a1_b285)).other W320 (Or.inl ne_a1_b285)).other W327 (Or.inl ne_a1_b149))
 have f333 := ((f312.other W320 (Or.inl ne_a1_b285)).other W327 (Or.inl ne_a1_b149))
 have f334 := (f323.other W327 (Or.inl ne_a1_b149))
 have f335 := ((((((((((((F181.ext E184).other W200 (Or.inr (slot_ne (Or.inr (own_w hw 281 rfl)) (Or.inr (own_w hw 284 rfl)) (by decide) (t := (.array .int)) (t' := (.array .boolean)) (by decide) (by decide)))).ext E222).other W234 (Or.inl ne_a1_b135)).other W245 (Or.inl ne_a1_b222)).other W256 (Or.inl ne_a1_b222)).other W263 (Or.inl ne_a1_b149)).ext E285).other W298 (Or.inl ne_a1_b135)).other W309 (Or.inl ne_a1_b285)).other W320 (Or.inl ne_a1_b285)).other W327 (Or.inl ne_a1_b149))
 have f336 := ((((((((((F200.ext E222).other W234 (Or.inl ne_a1_b135)).other W245 (Or.inl ne_a1_b222)).other W256 (Or.inl ne_a1_b222)).other W263 (Or.inl ne_a1_b149)).ext E285).other W298 (Or.inl ne_a1_b135)).other W309 (Or.inl ne_a1_b285)).other W320 (Or.inl ne_a1_b285)).other W327 (Or.inl ne_a1_b149))
 have f337 := ((((((((((((((((((((((F7.ext E104).other W108 (Or.inr (slot_ne (Or.inl (own_w hw 307 rfl)) (Or.inl (own_w hw 265 rfl)) (by decide) (t := .int) (t' := (.array .int)) (by decide) (by decide)))).ext E111).other W123 (Or.inr (slot_ne (Or.inl (own_w hw 307 rfl)) (Or.inr (own_w hw 267 rfl)) (by decide) (t := .int) (t' := (.array .int)) (by decide) (by decide)))).ext E135).other W146 (Or.inr (slot_ne (Or.inl (own_w hw 307 rfl)) (Or.inr (own_w hw 277 rfl)) (by decide) (t := .int) (t' := (.array (.array .long))) (by decide) (by decide)))).ext E149).other W163 (Or.inr (slot_ne (Or.inl (own_w hw 307 rfl)) (Or.inr (own_w hw 279 rfl)) (by decide) (t := .int) (t' := (.array .int)) (by decide) (by decide)))).ext E166).other W181 (Or.inr (slot_ne (Or.inl (own_w hw 307 rfl)) (Or.inr (own_w hw 281 rfl)) (by decide) (t := .int) (t' := (.array .int)) (by decide) (by decide)))).ext E184).other W200 (Or.inr (slot_ne (Or.inl (own_w hw 307 rfl)) (Or.inr (own_w hw 284 rfl)) (by decide) (t := .int) (t' := (.array .boolean)) (by decide) (by decide)))).ext E222).other W234 (Or.inl ne_a1_b135)).other W245 (Or.inl ne_a1_b222)).other W256 (Or.inl ne_a1_b222)).other W263 (Or.inl ne_a1_b149)).ext E285).other W298 (Or.inl ne_a1_b135)).other W309 (Or.inl ne_a1_b285)).other W320 (Or.inl ne_a1_b285)).other W327 (Or.inl ne_a1_b149))
 have f338 := ((((((((((((((((((((((F8.ext E104).other W108 (Or.inr (slot_ne (Or.inl (own_w hw 329 rfl)) (Or.inl (own_w hw 265 rfl)) (by decide) (t := .int) (t' := (.array .int)) (by decide) (by decide)))).ext E111).other W123 (Or.inr (slot_ne (Or.inl (own_w hw 329 rfl)) (Or.inr (own_w hw 267 rfl)) (by decide) (t := .int) (t' := (.array .int)) (by decide) (by decide)))).ext E135).other W146 (Or.inr (slot_ne (Or.inl (own_w hw 329 rfl)) (Or.inr (own_w hw 277 rfl)) (by decide) (t := .int) (t' := (.array (.array .long))) (by decide) (by decide)))).ext E149).other W163 (Or.inr (slot_ne (Or.inl (own_w hw 329 rfl)) (Or.inr (own_w hw 279 rfl)) (by decide) (t := .int) (t' := (.array .int)) (by decide) (by decide)))).ext E166).other W181 (Or.inr (slot_ne (Or.inl (own_w hw 329 rfl)) (Or.inr (own_w hw 281 rfl)) (by decide) (t := .int) (t' := (.array .int)) (by decide) (by decide)))).ext E184).other W200 (Or.inr (slot_ne (Or.inl (own_w hw 329 rfl)) (Or.inr (own_w hw 284 rfl)) (by decide) (t := .int) (t' := (.array .boolean)) (by decide) (by decide)))).ext E222).other W234 (Or.inl ne_a1_b135)).other W245 (Or.inl ne_a1_b222)).other W256 (Or.inl ne_a1_b222)).other W263 (Or.inl ne_a1_b149)).ext E285).other W298 (Or.inl ne_a1_b135)).other W309 (Or.inl ne_a1_b285)).other W320 (Or.inl ne_a1_b285)).other W327 (Or.inl ne_a1_b149))
 have f339 := (((((((((((((((((((((V104.other W108 (Ne.symm ne_a1_b104)).ext E111).other W123 (Ne.symm ne_a1_b104)).ext E135).other W146 (Ne.symm ne_a1_b104)).ext E149).other W163 (Ne.symm ne_a1_b104)).ext E166).other W181 (Ne.symm ne_a1_b104)).ext E184).other W200 (Ne.symm ne_a1_b104)).ext E222).other W234 ne_b104_b135).other W245 ne_b104_b222).other W256 ne_b104_b222).other W263 ne_b104_b149).ext E285).other W298 ne_b104_b135).other W309 ne_b104_b285).other W320 ne_b104_b285).other W327 ne_b104_b149)
 have f340 := ((f316.other W320 ne_b135_b285).other W327 ne_b135_b149)
 have f341 := (((((((((((((V166.other W181 (Ne.symm ne_a1_b166)).ext E184).other W200 (Ne.symm ne_a1_b166)).ext E222).other W234 (Ne.symm ne_b135_b166)).other W245 ne_b166_b222).other W256 ne_b166_b222).other W263 (Ne.symm ne_b149_b166)).ext E285).other W298 (Ne.symm ne_b135_b166)).other W309 ne_b166_b285).other W320 ne_b166_b285).other W327 (Ne.symm ne_b149_b166))
 have f342 := (((((((((((V184.other W200 (Ne.symm ne_a1_b184)).ext E222).other W234 (Ne.symm ne_b135_b184)).other W245 ne_b184_b222).other W256 ne_b184_b222).other W263 (Ne.symm ne_b149_b184)).ext E285).other W298 (Ne.symm ne_b135_b184)).other W309 ne_b184_b285).other W320 ne_b184_b285).other W327 (Ne.symm ne_b149_b184))
 have f343 := ((((((V256.other W263 (Ne.symm ne_b149_b222)).ext E285).other W298 (Ne.symm ne_b135_b222)).other W309 ne_b222_b285).other W320 ne_b222_b285).other W327 (Ne.symm ne_b149_b222))
 have f344 := (V320.other W327 (Ne.symm ne_b149_b285))
 obtain ⟨fs, hr, hrun, hended, hW, hsame⟩ := X327.leave (v := none) (fun _ => rfl)
 refine ⟨_, _, p329 _ (X327.returnOut hx Bd.returns (hb hby d32_151) hr), hrun, hended, _, _, rfl, ?_, ⟨_, rfl⟩, hW, hsame.mono (by decide) (by decide)⟩
 show Q32 Z a1 a2 vl x0 x1 v0 v1 kv0 kv1 de kde el ea kea em mr h0 n0 _ T327.heap _
 rw [e327]
 exact ⟨b104, b135, b149, b166, b184, b222, b285, b111, k104, k135, k149, k166, k184, k222, k285, rfl, N327, K328, f330, f331, f332, f333, f334, f335, f336, f337, f338, f339, f340, V327, f341, f342, f343, f344, ⟨sz_b104, sz_b135, sz_b149, sz_b166, sz_b184, sz_b222, sz_b285⟩, ⟨ne_a1_b104, ne_a1_b135, ne_a1_b149, ne_a1_b166, ne_a1_b184, ne_a1_b222, ne_a1_b285, ne_b104_b135, ne_b104_b149, ne_b104_b166, ne_b104_b184, ne_b104_b222, ne_b104_b285, ne_b135_b149, ne_b135_b166, ne_b135_b184, ne_b135_b222, ne_b135_b285, ne_b149_b166, ne_b149_b184, ne_b149_b222, ne_b149_b285, ne_b166_b184, ne_b166_b222, ne_b166_b285, ne_b184_b222, ne_b184_b285, ne_b222_b285⟩, ⟨g1, ge_b104, ge_b135, ge_b149, ge_b166, ge_b184, ge_b222, ge_b285⟩, O135⟩
theorem d41_0 : decode prog_50_method_23_code 0 = .ok (.aload_n 0, 1) := by decide +kernel
theorem d41_1 : decode prog_50_method_23_code 1 = .ok (.getfield 40, 3) := by decide +kernel
theorem d41_4 : decode prog_50_method_23_code 4 = .ok (.iload_n 1, 1) := by decide +kernel
theorem d41_5 : decode prog_50_method_23_code 5 = .ok (.baload, 1) := by decide +kernel
theorem d41_6 : decode prog_50_method_23_code 6 = .ok (.ifCond .ne 27, 3) := by decide +kernel
theorem d41_9 : decode prog_50_method_23_code 9 = .ok (.aload_n 0, 1) := by decide +kernel
theorem d41_10 : decode prog_50_method_23_code 10 = .ok (.getfield 40, 3) := by decide +kernel
theorem d41_13 : decode prog_50_method_23_code 13 = .ok (.iload_n 1, 1) := by decide +kernel
theorem d41_14 : decode prog_50_method_23_code 14 = .ok (.iconst 1, 1) := by decide +kernel
theorem d41_15 : decode prog_50_method_23_code 15 = .ok (.bastore, 1) := by decide +kernel
theorem d41_16 : decode prog_50_method_23_code 16 = .ok (.aload_n 0, 1) := by decide +kernel
theorem d41_17 : decode prog_50_method_23_code 17 = .ok (.getfield 37, 3) := by decide +kernel
theorem d41_20 : decode prog_50_method_23_code 20 = .ok (.aload_n 0, 1) := by decide +kernel
theorem d41_21 : decode prog_50_method_23_code 21 = .ok (.dup, 1) := by decide +kernel
theorem d41_22 : decode prog_50_method_23_code 22 = .ok (.getfield 55, 3) := by decide +kernel
theorem d41_25 : decode prog_50_method_23_code 25 = .ok (.dup_x1, 1) := by decide +kernel
theorem d41_26 : decode prog_50_method_23_code 26 = .ok (.iconst 1, 1) := by decide +kernel
theorem d41_27 : decode prog_50_method_23_code 27 = .ok (.iadd, 1) := by decide +kernel
theorem d41_28 : decode prog_50_method_23_code 28 = .ok (.putfield 55, 3) := by decide +kernel
theorem d41_31 : decode prog_50_method_23_code 31 = .ok (.iload_n 1, 1) := by decide +kernel
theorem d41_32 : decode prog_50_method_23_code 32 = .ok (.iastore, 1) := by decide +kernel
theorem d41_33 : decode prog_50_method_23_code 33 = .ok (.return_, 1) := by decide +kernel
theorem pn41 : plainFor (⟨"com/example/arcward/arcward/solver/Domains", "markResized", "(I)V"⟩ : MethodName) = true := plainFor_of_name (by first | (simp [plainName, overriddenIn]; done) | decide +kernel)
theorem ef_rm41_0 (m : MethodId) (a1 : Addr) (tr : Addr) (bi : Addr) (sz : Addr) (rs : Addr) (ir : Addr) (w0 : Addr) (w1 : Addr) (rb : Addr) (krs : ClassId) (kir : ClassId) (tl : Int32) (rc : Int32) (u0 : Int32) (u1 : Int32) (eb1 : Int32) : entryFrame m #[(.ref a1), (.int (0 : Int32))] 2 = mkF m 0 #[.val (.ref a1), .val (.int (0 : Int32))] [] := by first | (simp [entryFrame, mkF, argsToLocals, Value.category]; done) | rfl
def Q41_0 (Z : State) (a1 : Addr) (tr : Addr) (bi : Addr) (sz : Addr) (rs : Addr) (ir : Addr) (w0 : Addr) (w1 : Addr) (rb : Addr) (krs : ClassId) (kir : ClassId) (tl : Int32) (rc : Int32) (u0 : Int32) (u1 : Int32) (eb1 : Int32) (h0 : Heap) (n0 : Nat) (v : Option Value) (h : Heap) (L : List Loc) : Prop := v = none ∧ Fr n0 L ∧ (Keep h0 h [a1, rs, ir]) ∧ (Exa Z h a1 "com/example/arcward/arcward/solver/Domains") ∧ (Fld Z h a1 "com/example/arcward/arcward/solver/Domains" "trail" "[I" (.ref tr)) ∧ (Fld Z h a1 "com/example/arcward/arcward/solver/Domains" "removedBy" "[I" (.ref rb)) ∧ (Fld Z h a1 "com/example/arcward/arcward/solver/Domains" "bits" "[[J" (.ref bi)) ∧ (Fld Z h a1 "com/example/arcward/arcward/solver/Domains" "sizes" "[I" (.ref sz)) ∧ (Fld Z h a1 "com/example/arcward/arcward/solver/Domains" "resized" "[I" (.ref rs)) ∧ (Fld Z h a1 "com/example/arcward/arcward/solver/Domains" "inResized" "[Z" (.ref ir)) ∧ (Fld Z h a1 "com/example/arcward/arcward/solver/Domains" "resizedCount" "I" (.int (rc + (1 : Int32)))) ∧ (Fld Z h a1 "com/example/arcward/arcward/solver/Domains" "trailLength" "I" (.int tl)) ∧ (Arv Z h rs krs .int (2 : Int32) [(.int (own_m0 rc (0 : Int32) u0)), (.int (own_m1 rc (0 : Int32) u1))] (.int (0 : Int32))) ∧ (Arv Z h ir kir .boolean (2 : Int32) [(.int (1 : Int32)), (.int eb1)] (.int (0 : Int32)))
set_option maxRecDepth 65536 in
set_option maxHeartbeats 40000000 in
theorem rm41_0 (l : Launch) (Z : State) (a0 : Array Value) (hw : ∀ d ∈ tables_1, d.before a0 Z = true) (ws : List Jvm.Cond) (a1 : Addr) (tr : Addr) (bi : Addr) (sz : Addr) (rs : Addr) (ir : Addr) (w0 : Addr) (w1 : Addr) (rb : Addr) (krs : ClassId) (kir : ClassId) (tl : Int32) (rc : Int32) (u0 : Int32) (u1 : Int32) (eb1 : Int32) (h0 : Heap) (n0 : Nat) (Z0 : n0 ≤ h0.size) (F0 : Exa Z h0 a1 "com/example/arcward/arcward/solver/Domains") (F1 : Fld Z h0 a1 "com/example/arcward/arcward/solver/Domains" "trail" "[I" (.ref tr)) (F2 : Fld Z h0 a1 "com/example/arcward/arcward/solver/Domains" "removedBy" "[I" (.ref rb)) (F3 : Fld Z h0 a1 "com/example/arcward/arcward/solver/Domains" "bits" "[[J" (.ref bi)) (F4 : Fld Z h0 a1 "com/example/arcward/arcward/solver/Domains" "sizes" "[I" (.ref sz)) (F5 : Fld Z h0 a1 "com/example/arcward/arcward/solver/Domains" "resized" "[I" (.ref rs)) (F6 : Fld Z h0 a1 "com/example/arcward/arcward/solver/Domains" "inResized" "[Z" (.ref ir)) (F7 : Fld Z h0 a1 "com/example/arcward/arcward/solver/Domains" "resizedCount" "I" (.int rc)) (F8 : Fld Z h0 a1 "com/example/arcward/arcward/solver/Domains" "trailLength" "I" (.int tl)) (F9 : Arv Z h0 rs krs .int (2 : Int32) [(.int u0), (.int u1)] (.int (0 : Int32))) (F10 : Arv Z h0 ir kir .boolean (2 : Int32) [(.int (0 : Int32)), (.int eb1)] (.int (0 : Int32))) (ND : own_ND a1 tr bi sz rs ir w0 w1) (GE : own_GE n0 a1 tr bi sz rs ir w0 w1) (hrc : rc = 0 ∨ rc = 1) :
  MetFree l (⟨"com/example/arcward/arcward/solver/Domains", "markResized", "(I)V"⟩ : MethodName) (head1 (Jvm.Cond.code (⟨"com/example/arcward/arcward/solver/Domains", "markResized", "(I)V"⟩ : MethodName) prog_50_method_23_code 2 none :: ws) ({ frames := 0, cells := 0, slots := 0, locals := 0 } : Room)) (fun a U => a = #[(.ref a1), (.int (0 : Int32))] ∧ Z.Warmed39 U.vm ∧ U.heap = h0) (fun _ _ _ _ _ => True) (fun _ U o U' => ∃ v L, o = .returned v ∧ Q41_0 Z a1 tr bi sz rs ir w0 w1 rb krs kir tl rc u0 u1 eb1 h0 n0 v U'.heap L ∧ FrameEnd U o U' L ({ frames := 0, cells := 0, slots := 0, locals := 0 } : Room).cells ({ frames := 0, cells := 0, slots := 0, locals := 0 } : Room).slots) := by
 refine MetFree.of_bodySF pn41 hisR ?_
 intro p e s m args below meth c s₁ Bd hml0 hP hK
 obtain ⟨rfl, hZ, hh⟩ := hP
 have hx := Bd.exec
 have hby := Bd.bytes
 have hml : c.maxLocals = 2 := hml0
 have hown : s.vm.findClass "com/example/arcward/arcward/solver/Domains" = some m.cls := findClass_of_methodNamed Bd.named
 have hnm := (name_of_methodNamed Bd.named Bd.method).1
 have X0 : Stand p l e ({ frames := 0, cells := 0, slots := 0, locals := 0 } : Room) s m #[(.ref a1), (.int (0 : Int32))] below meth c s₁ [] 0 0 := Stand.of_body Bd
 have e0 : s₁.heap = h0 := by rw [← hh, Bd.state]; rfl
 have N0 := Fr.nil n0
 have p0 : Go p.tables e below (s₁.setTop (entryFrame m #[(.ref a1), (.int (0 : Int32))] 2)) (s₁.setTop (mkF m 0 #[.val (.ref a1), .val (.int (0 : Int32))] [])) := fun t_ k_ => castTop (ef_rm41_0 m a1 tr bi sz rs ir w0 w1 rb krs kir tl rc u0 u1 eb1) k_
 rcases id hrc with r1 | r1
 ·have G7 : Fld Z h0 a1 "com/example/arcward/arcward/solver/Domains" "resizedCount" "I" (.int (0 : Int32)) := by rw [← r1]; exact F7
  have p101 : Go p.tables e below _ (s₁.setTop (mkF m 1 #[.val (.ref a1), .val (.int (0 : Int32))] [(.ref a1)])) := fun t_ k_ => p0 t_ (by
   refine XS.aloadN X0.here hx rfl (hb hby d41_0) rfl rfl ?_
   exact k_)
  obtain ⟨T102, X102, e102, st102⟩ := getF X0 hx hZ hown (host := "") (Or.inl (own_w hw 283 rfl)) Via.refl e0 F6 (g := (mkF m 1 #[.val (.ref a1), .val (.int (0 : Int32))] [(.ref a1)])) rfl rfl (hb hby d41_1)
  have p103 : Go p.tables e below _ (T102.setTop (mkF m 5 #[.val (.ref a1), .val (.int (0 : Int32))] [(.int (0 : Int32)), (.ref ir)])) := fun t_ k_ => (gc p101 st102) t_ (by
   refine XS.iloadN X102.here hx rfl (hb hby d41_4) rfl ?_
   exact k_)
  obtain ⟨cl104, Ar104, q104, S104, Ng104, H104, G104⟩ := id F10
  have hin104 := inb_of S104 (j := (0 : Int32)) ⟨by decide, by decide⟩
  have hat104 := H104.at (v := (.int (0 : Int32))) hin104 rfl
  have p105 : Go p.tables e below _ (T102.setTop (mkF m 10 #[.val (.ref a1), .val (.int (0 : Int32))] [(.ref a1)])) := fun t_ k_ => p103 t_ (by
   refine X102.baloadBooleans hx (j := (0 : Int32)) (v := (.int (0 : Int32))) (by rw [e102]; exact Ar104.1) (State.isArrayOf_alike hZ.alike Ar104.2.1) Ar104.2.2 hin104 hat104 (g := (mkF m 5 #[.val (.ref a1), .val (.int (0 : Int32))] [(.int (0 : Int32)), (.ref ir)])) rfl rfl (hb hby d41_5) _ ?_
   refine XS.ifNo X102.here hx rfl (hb hby d41_6) rfl ((if0 _ _).trans (teq (by decide : ((0 : Int32) = (0 : Int32)))).2) ?_
   refine XS.aloadN X102.here hx rfl (hb hby d41_9) rfl rfl ?_
   exact k_)
  obtain ⟨T106, X106, e106, st106⟩ := getF X102 hx hZ hown (host := "") (Or.inl (own_w hw 283 rfl)) Via.refl e102 F6 (g := (mkF m 10 #[.val (.ref a1), .val (.int (0 : Int32))] [(.ref a1)])) rfl rfl (hb hby d41_10)
  have p107 : Go p.tables e below _ (T106.setTop (mkF m 15 #[.val (.ref a1), .val (.int (0 : Int32))] [(.int (1 : Int32)), (.int (0 : Int32)), (.ref ir)])) := fun t_ k_ => (gc p105 st106) t_ (by
   refine XS.iloadN X106.here hx rfl (hb hby d41_13) rfl ?_
   refine XS.iconst X106.here hx rfl (hb hby d41_14) ?_
   exact k_)
  obtain ⟨cl108, Ar108, q108, S108, Ng108, H108, G108⟩ := id F10
  have hin108 := inb_of S108 (j := (0 : Int32)) ⟨by decide, by decide⟩
  obtain ⟨T108, h108, X108, e108, W108, st108⟩ := stZ X106 hx hZ e106 Ar108 (j := (0 : Int32)) hin108 (g := (mkF m 15 #[.val (.ref a1), .val (.int (0 : Int32))] [(.int (1 : Int32)), (.int (0 : Int32)), (.ref ir)])) rfl rfl (hb hby d41_15)
  have K109 : Keep h0 h108 [a1, rs, ir] := (Keep.refl h0 [a1, rs, ir]).wr W108 (Or.inl (List.mem_of_getElem? (i := 2) rfl))
  have N108 := Fr.snoc X108 N0 GE.2.2.2.2.2.1
  have V108 : Arv Z h108 ir kir .boolean (2 : Int32) [(.int (1 : Int32)), (.int eb1)] (.int (0 : Int32)) := Arv.set Ar108 q108 S108 Ng108 H108 G108 (by decide) W108 0 rfl (Nat.le_of_ble_eq_true rfl)
  have p110 : Go p.tables e below _ (T108.setTop (mkF m 17 #[.val (.ref a1), .val (.int (0 : Int32))] [(.ref a1)])) := fun t_ k_ => (gc p107 st108) t_ (by
   refine XS.aloadN X108.here hx rfl (hb hby d41_16) rfl rfl ?_
   exact k_)
  have f111 := (F5.other W108 (Or.inl ND.2.2.2.2.1))
  obtain ⟨T112, X112, e112, st112⟩ := getF X108 hx hZ hown (host := "") (Or.inl (own_w hw 280 rfl)) Via.refl e108 f111 (g := (mkF m 17 #[.val (.ref a1), .val (.int (0 : Int32))] [(.ref a1)])) rfl rfl (hb hby d41_17)
  have p113 : Go p.tables e below _ (T112.setTop (mkF m 22 #[.val (.ref a1), .val (.int (0 : Int32))] [(.ref a1), (.ref a1), (.ref rs)])) := fun t_ k_ => (gc p110 st112) t_ (by
   refine XS.aloadN X112.here hx rfl (hb hby d41_20) rfl rfl ?_
   refine XS.dup X112.here hx rfl (hb hby d41_21) rfl rfl ?_
   exact k_)
  have f114 := (G7.other W108 (Or.inl ND.2.2.2.2.1))
  obtain ⟨T115, X115, e115, st115⟩ := getF X112 hx hZ hown (host := "") (Or.inl (own_w hw 306 rfl)) Via.refl e112 f114 (g := (mkF m 22 #[.val (.ref a1), .val (.int (0 : Int32))] [(.ref a1), (.ref a1), (.ref rs)])) rfl rfl (hb hby d41_22)
  have p116 : Go p.tables e below _ (T115.setTop (mkF m 28 #[.val (.ref a1), .val (.int (0 : Int32))] [(.int (1 : Int32)), (.ref a1), (.int (0 : Int32)), (.ref rs)])) := fun t_ k_ => (gc p113 st115) t_ (by
   refine XS.dupX1 X115.here hx rfl (hb hby d41_25) rfl rfl rfl ?_
   refine XS.iconst X115.here hx rfl (hb hby d41_26) ?_
   refine XS.iadd X115.here hx rfl (hb hby d41_27) rfl ?_
   exact k_)
  have f117 := (F0.wr W108)
  obtain ⟨T118, h118, X118, e118, W118, st118⟩ := putF X115 hx hZ hown (host := "") (Or.inl (own_w hw 306 rfl)) Via.refl e115 f114 f117 (Or.inl (own_w hw 307 rfl)) (own_w hw 90 rfl) (ty := .int) (by decide) rfl rfl (g := (mkF m 28 #[.val (.ref a1), .val (.int (0 : Int32))] [(.int (1 : Int32)), (.ref a1), (.int (0 : Int32)), (.ref rs)])) rfl rfl (hb hby d41_28)
  have K119 : Keep h0 h118 [a1, rs, ir] := K109.wr W118 (Or.inl (List.mem_of_getElem? (i := 0) rfl))
  have N118 := Fr.snoc X118 N108 GE.1
  have F118 : Fld Z h118 a1 "com/example/arcward/arcward/solver/Domains" "resizedCount" "I" (.int (1 : Int32)) := f114.same W118
  have p120 : Go p.tables e below _ (T118.setTop (mkF m 32 #[.val (.ref a1), .val (.int (0 : Int32))] [(.int (0 : Int32)), (.int (0 : Int32)), (.ref rs)])) := fun t_ k_ => (gc p116 st118) t_ (by
   refine XS.iloadN X118.here hx rfl (hb hby d41_31) rfl ?_
   exact k_)
  have f121 := ((F9.other W108 ND.2.2.2.2.2.2.2.2.2.2.2.2.2.2.2.2.2.2.2.2.2.2.1).other W118 (Ne.symm ND.2.2.2.1))
  obtain ⟨cl122, Ar122, q122, S122, Ng122, H122, G122⟩ := id f121
  have hin122 := inb_of S122 (j := (0 : Int32)) ⟨by decide, by decide⟩
  obtain ⟨T122, h122, X122, e122, W122, st122⟩ := stI X118 hx hZ e118 Ar122 (j := (0 : Int32)) hin122 (g := (mkF m 32 #[.val (.ref a1), .val (.int (0 : Int32))] [(.int (0 : Int32)), (.int (0 : Int32)), (.ref rs)])) rfl rfl (hb hby d41_32)
  have K123 : Keep h0 h122 [a1, rs, ir] := K119.wr W122 (Or.inl (List.mem_of_getElem? (i := 1) rfl))
  have N122 := Fr.snoc X122 N118 GE.2.2.2.2.1
  have V122 : Arv Z h122 rs krs .int (2 : Int32) [(.int (0 : Int32)), (.int u1)] (.int (0 : Int32)) := Arv.set Ar122 q122 S122 Ng122 H122 G122 rfl W122 0 rfl (Nat.le_of_ble_eq_true rfl)
  have f124 := ((f117.wr W118).wr W122)
  have f125 := (((F1.other W108 (Or.inl ND.2.2.2.2.1)).other W118 (Or.inr (slot_ne (Or.inl (own_w hw 265 rfl)) (Or.inl (own_w hw 307 rfl)) (by decide) (t := (.array .int)) (t' := .int) (by decide) (by decide)))).other W122 (Or.inl ND.2.2.2.1))
  have f126 := (((F2.other W108 (Or.inl ND.2.2.2.2.1)).other W118 (Or.inr (slot_ne (Or.inr (own_w hw 267 rfl)) (Or.inl (own_w hw 307 rfl)) (by decide) (t := (.array .int)) (t' := .int) (by decide) (by decide)))).other W122 (Or.inl ND.2.2.2.1))
  have f127 := (((F3.other W108 (Or.inl ND.2.2.2.2.1)).other W118 (Or.inr (slot_ne (Or.inr (own_w hw 277 rfl)) (Or.inl (own_w hw 307 rfl)) (by decide) (t := (.array (.array .long))) (t' := .int) (by decide) (by decide)))).other W122 (Or.inl ND.2.2.2.1))
  have f128 := (((F4.other W108 (Or.inl ND.2.2.2.2.1)).other W118 (Or.inr (slot_ne (Or.inr (own_w hw 279 rfl)) (Or.inl (own_w hw 307 rfl)) (by decide) (t := (.array .int)) (t' := .int) (by decide) (by decide)))).other W122 (Or.inl ND.2.2.2.1))
  have f129 := ((f111.other W118 (Or.inr (slot_ne (Or.inr (own_w hw 281 rfl)) (Or.inl (own_w hw 307 rfl)) (by decide) (t := (.array .int)) (t' := .int) (by decide) (by decide)))).other W122 (Or.inl ND.2.2.2.1))
  have f130 := (((F6.other W108 (Or.inl ND.2.2.2.2.1)).other W118 (Or.inr (slot_ne (Or.inr (own_w hw 284 rfl)) (Or.inl (own_w hw 307 rfl)) (by decide) (t := (.array .boolean)) (t' := .int) (by decide) (by decide)))).other W122 (Or.inl ND.2.2.2.1))
  have f131 := (F118.other W122 (Or.inl ND.2.2.2.1))
  have f132 := (((F8.other W108 (Or.inl ND.2.2.2.2.1)).other W118 (Or.inr (slot_ne (Or.inl (own_w hw 329 rfl)) (Or.inl (own_w hw 307 rfl)) (by decide) (t := .int) (t' := .int) (by decide) (by decide)))).other W122 (Or.inl ND.2.2.2.1))
  have f133 := ((V108.other W118 (Ne.symm ND.2.2.2.2.1)).other W122 (Ne.symm ND.2.2.2.2.2.2.2.2.2.2.2.2.2.2.2.2.2.2.2.2.2.2.1))
  obtain ⟨fs, hr, hrun, hended, hW, hsame⟩ := X122.leave (v := none) (fun _ => rfl)
  refine ⟨_, _, (gc p120 st122) _ (X122.returnOut hx Bd.returns (hb hby d41_33) hr), hrun, hended, _, _, rfl, ?_, ⟨_, rfl⟩, hW, hsame.mono (by decide) (by decide)⟩
  show Q41_0 Z a1 tr bi sz rs ir w0 w1 rb krs kir tl rc u0 u1 eb1 h0 n0 _ T122.heap _
  rw [e122]
  exact ⟨rfl, N122, K123, f124, f125, f126, f127, f128, f129, f130, (by rw [r1]; exact f131), f132, (by rw [r1]; exact V122), f133⟩
 ·have G7 : Fld Z h0 a1 "com/example/arcward/arcward/solver/Domains" "resizedCount" "I" (.int (1 : Int32)) := by rw [← r1]; exact F7
  have p134 : Go p.tables e below _ (s₁.setTop (mkF m 1 #[.val (.ref a1), .val (.int (0 : Int32))] [(.ref a1)])) := fun t_ k_ => p0 t_ (by
   refine XS.aloadN X0.here hx rfl (hb hby d41_0) rfl rfl ?_
   exact k_)
  obtain ⟨T135, X135, e135, st135⟩ := getF X0 hx hZ hown (host := "") (Or.inl (own_w hw 283 rfl)) Via.refl e0 F6 (g := (mkF m 1 #[.val (.ref a1), .val (.int (0 : Int32))] [(.ref a1)])) rfl rfl (hb hby d41_1)
  have p136 : Go p.tables e below _ (T135.setTop (mkF m 5 #[.val (.ref a1), .val (.int (0 : Int32))] [(.int (0 : Int32)), (.ref ir)])) := fun t_ k_ => (gc p134 st135) t_ (by
   refine XS.iloadN X135.here hx rfl (hb hby d41_4) rfl ?_
   exact k_)
  obtain ⟨cl137, Ar137, q137, S137, Ng137, H137, G137⟩ := id F10
  have hin137 := inb_of S137 (j := (0 : Int32)) ⟨by decide, by decide⟩
  have hat137 := H137.at (v := (.int (0 : Int32))) hin137 rfl
  have p138 : Go p.tables e below _ (T135.setTop (mkF m 10 #[.val (.ref a1), .val (.int (0 : Int32))] [(.ref a1)])) := fun t_ k_ => p136 t_ (by
   refine X135.baloadBooleans hx (j := (0 : Int32)) (v := (.int (0 : Int32))) (by rw [e135]; exact Ar137.1) (State.isArrayOf_alike hZ.alike Ar137.2.1) Ar137.2.2 hin137 hat137 (g := (mkF m 5 #[.val (.ref a1), .val (.int (0 : Int32))] [(.int (0 : Int32)), (.ref ir)])) rfl rfl (hb hby d41_5) _ ?_
   refine XS.ifNo X135.here hx rfl (hb hby d41_6) rfl ((if0 _ _).trans (teq (by decide : ((0 : Int32) = (0 : Int32)))).2) ?_
   refine XS.aloadN X135.here hx rfl (hb hby d41_9) rfl rfl ?_
   exact k_)
  obtain ⟨T139, X139, e139, st139⟩ := getF X135 hx hZ hown (host := "") (Or.inl (own_w hw 283 rfl)) Via.refl e135 F6 (g := (mkF m 10 #[.val (.ref a1), .val (.int (0 : Int32))] [(.ref a1)])) rfl rfl (hb hby d41_10)
  have p140 : Go p.tables e below _ (T139.setTop (mkF m 15 #[.val (.ref a1), .val (.int (0 : Int32))] [(.int (1 : Int32)), (.int (0 : Int32)), (.ref ir)])) := fun t_ k_ => (gc p138 st139) t_ (by
   refine XS.iloadN X139.here hx rfl (hb hby d41_13) rfl ?_
   refine XS.iconst X139.here hx rfl (hb hby d41_14) ?_
   exact k_)
  obtain ⟨cl141, Ar141, q141, S141, Ng141, H141, G141⟩ := id F10
  have hin141 := inb_of S141 (j := (0 : Int32)) ⟨by decide, by decide⟩
  obtain ⟨T141, h141, X141, e141, W141, st141⟩ := stZ X139 hx hZ e139 Ar141 (j := (0 : Int32)) hin141 (g := (mkF m 15 #[.val (.ref a1), .val (.int (0 : Int32))] [(.int (1 : Int32)), (.int (0 : Int32)), (.ref ir)])) rfl rfl (hb hby d41_15)
  have K142 : Keep h0 h141 [a1, rs, ir] := (Keep.refl h0 [a1, rs, ir]).wr W141 (Or.inl (List.mem_of_getElem? (i := 2) rfl))
  have N141 := Fr.snoc X141 N0 GE.2.2.2.2.2.1
  have V141 : Arv Z h141 ir kir .boolean (2 : Int32) [(.int (1 : Int32)), (.int eb1)] (.int (0 : Int32)) := Arv.set Ar141 q141 S141 Ng141 H141 G141 (by decide) W141 0 rfl (Nat.le_of_ble_eq_true rfl)
  have p143 : Go p.tables e below _ (T141.setTop (mkF m 17 #[.val (.ref a1), .val (.int (0 : Int32))] [(.ref a1)])) := fun t_ k_ => (gc p140 st141) t_ (by
   refine XS.aloadN X141.here hx rfl (hb hby d41_16) rfl rfl ?_
   exact k_)
  have f144 := (F5.other W141 (Or.inl ND.2.2.2.2.1))
  obtain ⟨T145, X145, e145, st145⟩ := getF X141 hx hZ hown (host := "") (Or.inl (own_w hw 280 rfl)) Via.refl e141 f144 (g := (mkF m 17 #[.val (.ref a1), .val (.int (0 : Int32))] [(.ref a1)])) rfl rfl (hb hby d41_17)
  have p146 : Go p.tables e below _ (T145.setTop (mkF m 22 #[.val (.ref a1), .val (.int (0 : Int32))] [(.ref a1), (.ref a1), (.ref rs)])) := fun t_ k_ => (gc p143 st145) t_ (by
   refine XS.aloadN X145.here hx rfl (hb hby d41_20) rfl rfl ?_
   refine XS.dup X145.here hx rfl (hb hby d41_21) rfl rfl ?_
   exact k_)
  have f147 := (G7.other W141 (Or.inl ND.2.2.2.2.1))
  obtain ⟨T148, X148, e148, st148⟩ := getF X145 hx hZ hown (host := "") (Or.inl (own_w hw 306 rfl)) Via.refl e145 f147 (g := (mkF m 22 #[.val (.ref a1), .val (.int (0 : Int32))] [(.ref a1), (.ref a1), (.ref rs)])) rfl rfl (hb hby d41_22)
  have p149 : Go p.tables e below _ (T148.setTop (mkF m 28 #[.val (.ref a1), .val (.int (0 : Int32))] [(.int (2 : Int32)), (.ref a1), (.int (1 : Int32)), (.ref rs)])) := fun t_ k_ => (gc p146 st148) t_ (by
   refine XS.dupX1 X148.here hx rfl (hb hby d41_25) rfl rfl rfl ?_
   refine XS.iconst X148.here hx rfl (hb hby d41_26) ?_
   refine XS.iadd X148.here hx rfl (hb hby d41_27) rfl ?_
   exact k_)
  have f150 := (F0.wr W141)
  obtain ⟨T151, h151, X151, e151, W151, st151⟩ := putF X148 hx hZ hown (host := "") (Or.inl (own_w hw 306 rfl)) Via.refl e148 f147 f150 (Or.inl (own_w hw 307 rfl)) (own_w hw 90 rfl) (ty := .int) (by decide) rfl rfl (g := (mkF m 28 #[.val (.ref a1), .val (.int (0 : Int32))] [(.int (2 : Int32)), (.ref a1), (.int (1 : Int32)), (.ref rs)])) rfl rfl (hb hby d41_28)
  have K152 : Keep h0 h151 [a1, rs, ir] := K142.wr W151 (Or.inl (List.mem_of_getElem? (i := 0) rfl))
  have N151 := Fr.snoc X151 N141 GE.1
  have F151 : Fld Z h151 a1 "com/example/arcward/arcward/solver/Domains" "resizedCount" "I" (.int (2 : Int32)) := f147.same W151
  have p153 : Go p.tables e below _ (T151.setTop (mkF m 32 #[.val (.ref a1), .val (.int (0 : Int32))] [(.int (0 : Int32)), (.int (1 : Int32)), (.ref rs)])) := fun t_ k_ => (gc p149 st151) t_ (by
   refine XS.iloadN X151.here hx rfl (hb hby d41_31) rfl ?_
   exact k_)
  have f154 := ((F9.other W141 ND.2.2.2.2.2.2.2.2.2.2.2.2.2.2.2.2.2.2.2.2.2.2.1).other W151 (Ne.symm ND.2.2.2.1))
  obtain ⟨cl155, Ar155, q155, S155, Ng155, H155, G155⟩ := id f154
  have hin155 := inb_of S155 (j := (1 : Int32)) ⟨by decide, by decide⟩
  obtain ⟨T155, h155, X155, e155, W155, st155⟩ := stI X151 hx hZ e151 Ar155 (j := (1 : Int32)) hin155 (g := (mkF m 32 #[.val (.ref a1), .val (.int (0 : Int32))] [(.int (0 : Int32)), (.int (1 : Int32)), (.ref rs)])) rfl rfl (hb hby d41_32)
  have K156 : Keep h0 h155 [a1, rs, ir] := K152.wr W155 (Or.inl (List.mem_of_getElem? (i := 1) rfl))
  have N155 := Fr.snoc X155 N151 GE.2.2.2.2.1
  have V155 : Arv Z h155 rs krs .int (2 : Int32) [(.int u0), (.int (0 : Int32))] (.int (0 : Int32)) := Arv.set Ar155 q155 S155 Ng155 H155 G155 rfl W155 1 rfl (Nat.le_of_ble_eq_true rfl)
  have f157 := ((f150.wr W151).wr W155)
  have f158 := (((F1.other W141 (Or.inl ND.2.2.2.2.1)).other W151 (Or.inr (slot_ne (Or.inl (own_w hw 265 rfl)) (Or.inl (own_w hw 307 rfl)) (by decide) (t := (.array .int)) (t' := .int) (by decide) (by decide)))).other W155 (Or.inl ND.2.2.2.1))
  have f159 := (((F2.other W141 (Or.inl ND.2.2.2.2.1)).other W151 (Or.inr (slot_ne (Or.inr (own_w hw 267 rfl)) (Or.inl (own_w hw 307 rfl)) (by decide) (t := (.array .int)) (t' := .int) (by decide) (by decide)))).other W155 (Or.inl ND.2.2.2.1))
  have f160 := (((F3.other W141 (Or.inl ND.2.2.2.2.1)).other W151 (Or.inr (slot_ne (Or.inr (own_w hw 277 rfl)) (Or.inl (own_w hw 307 rfl)) (by decide) (t := (.array (.array .long))) (t' := .int) (by decide) (by decide)))).other W155 (Or.inl ND.2.2.2.1))
  have f161 := (((F4.other W141 (Or.inl ND.2.2.2.2.1)).other W151 (Or.inr (slot_ne (Or.inr (own_w hw 279 rfl)) (Or.inl (own_w hw 307 rfl)) (by decide) (t := (.array .int)) (t' := .int) (by decide) (by decide)))).other W155 (Or.inl ND.2.2.2.1))
  have f162 := ((f144.other W151 (Or.inr (slot_ne (Or.inr (own_w hw 281 rfl)) (Or.inl (own_w hw 307 rfl)) (by decide) (t := (.array .int)) (t' := .int) (by decide) (by decide)))).other W155 (Or.inl ND.2.2.2.1))
  have f163 := (((F6.other W141 (Or.inl ND.2.2.2.2.1)).other W151 (Or.inr (slot_ne (Or.inr (own_w hw 284 rfl)) (Or.inl (own_w hw 307 rfl)) (by decide) (t := (.array .boolean)) (t' := .int) (by decide) (by decide)))).other W155 (Or.inl ND.2.2.2.1))
  have f164 := (F151.other W155 (Or.inl ND.2.2.2.1))
  have f165 := (((F8.other W141 (Or.inl ND.2.2.2.2.1)).other W151 (Or.inr (slot_ne (Or.inl (own_w hw 329 rfl)) (Or.inl (own_w hw 307 rfl)) (by decide) (t := .int) (t' := .int) (by decide) (by decide)))).other W155 (Or.inl ND.2.2.2.1))
  have f166 := ((V141.other W151 (Ne.symm ND.2.2.2.2.1)).other W155 (Ne.symm ND.2.2.2.2.2.2.2.2.2.2.2.2.2.2.2.2.2.2.2.2.2.2.1))
  obtain ⟨fs, hr, hrun, hended, hW, hsame⟩ := X155.leave (v := none) (fun _ => rfl)
  refine ⟨_, _, (gc p153 st155) _ (X155.returnOut hx Bd.returns (hb hby d41_33) hr), hrun, hended, _, _, rfl, ?_, ⟨_, rfl⟩, hW, hsame.mono (by decide) (by decide)⟩
  show Q41_0 Z a1 tr bi sz rs ir w0 w1 rb krs kir tl rc u0 u1 eb1 h0 n0 _ T155.heap _
  rw [e155]
  exact ⟨rfl, N155, K156, f157, f158, f159, f160, f161, f162, f163, (by rw [r1]; exact f164), f165, (by rw [r1]; exact V155), f166⟩
theorem ef_rm41_1 (m : MethodId) (a1 : Addr) (tr : Addr) (bi : Addr) (sz : Addr) (rs : Addr) (ir : Addr) (w0 : Addr) (w1 : Addr) (rb : Addr) (krs : ClassId) (kir : ClassId) (tl : Int32) (rc : Int32) (u0 : Int32) (u1 : Int32) (eb0 : Int32) : entryFrame m #[(.ref a1), (.int (1 : Int32))] 2 = mkF m 0 #[.val (.ref a1), .val (.int (1 : Int32))] [] := by first | (simp [entryFrame, mkF, argsToLocals, Value.category]; done) | rfl
def Q41_1 (Z : State) (a1 : Addr) (tr : Addr) (bi : Addr) (sz : Addr) (rs : Addr) (ir : Addr) (w0 : Addr) (w1 : Addr) (rb : Addr) (krs : ClassId) (kir : ClassId) (tl : Int32) (rc : Int32) (u0 : Int32) (u1 : Int32) (eb0 : Int32) (h0 : Heap) (n0 : Nat) (v : Option Value) (h : Heap) (L : List Loc) : Prop := v = none ∧ Fr n0 L ∧ (Keep h0 h [a1, rs, ir]) ∧ (Exa Z h a1 "com/example/arcward/arcward/solver/Domains") ∧ (Fld Z h a1 "com/example/arcward/arcward/solver/Domains" "trail" "[I" (.ref tr)) ∧ (Fld Z h a1 "com/example/arcward/arcward/solver/Domains" "removedBy" "[I" (.ref rb)) ∧ (Fld Z h a1 "com/example/arcward/arcward/solver/Domains" "bits" "[[J" (.ref bi)) ∧ (Fld Z h a1 "com/example/arcward/arcward/solver/Domains" "sizes" "[I" (.ref sz)) ∧ (Fld Z h a1 "com/example/arcward/arcward/solver/Domains" "resized" "[I" (.ref rs)) ∧ (Fld Z h a1 "com/example/arcward/arcward/solver/Domains" "inResized" "[Z" (.ref ir)) ∧ (Fld Z h a1 "com/example/arcward/arcward/solver/Domains" "resizedCount" "I" (.int (rc + (1 : Int32)))) ∧ (Fld Z h a1 "com/example/arcward/arcward/solver/Domains" "trailLength" "I" (.int tl)) ∧ (Arv Z h rs krs .int (2 : Int32) [(.int (own_m0 rc (1 : Int32) u0)), (.int (own_m1 rc (1 : Int32) u1))] (.int (0 : Int32))) ∧ (Arv Z h ir kir .boolean (2 : Int32) [(.int eb0), (.int (1 : Int32))] (.int (0 : Int32)))
set_option maxRecDepth 65536 in
set_option maxHeartbeats 40000000 in
theorem rm41_1 (l : Launch) (Z : State) (a0 : Array Value) (hw : ∀ d ∈ tables_1, d.before a0 Z = true) (ws : List Jvm.Cond) (a1 : Addr) (tr : Addr) (bi : Addr) (sz : Addr) (rs : Addr) (ir : Addr) (w0 : Addr) (w1 : Addr) (rb : Addr) (krs : ClassId) (kir : ClassId) (tl : Int32) (rc : Int32) (u0 : Int32) (u1 : Int32) (eb0 : Int32) (h0 : Heap) (n0 : Nat) (Z0 : n0 ≤ h0.size) (F0 : Exa Z h0 a1 "com/example/arcward/arcward/solver/Domains") (F1 : Fld Z h0 a1 "com/example/arcward/arcward/solver/Domains" "trail" "[I" (.ref tr)) (F2 : Fld Z h0 a1 "com/example/arcward/arcward/solver/Domains" "removedBy" "[I" (.ref rb)) (F3 : Fld Z h0 a1 "com/example/arcward/arcward/solver/Domains" "bits" "[[J" (.ref bi)) (F4 : Fld Z h0 a1 "com/example/arcward/arcward/solver/Domains" "sizes" "[I" (.ref sz)) (F5 : Fld Z h0 a1 "com/example/arcward/arcward/solver/Domains" "resized" "[I" (.ref rs)) (F6 : Fld Z h0 a1 "com/example/arcward/arcward/solver/Domains" "inResized" "[Z" (.ref ir)) (F7 : Fld Z h0 a1 "com/example/arcward/arcward/solver/Domains" "resizedCount" "I" (.int rc)) (F8 : Fld Z h0 a1 "com/example/arcward/arcward/solver/Domains" "trailLength" "I" (.int tl)) (F9 : Arv Z h0 rs krs .int (2 : Int32) [(.int u0), (.int u1)] (.int (0 : Int32))) (F10 : Arv Z h0 ir kir .boolean (2 : Int32) [(.int eb0), (.int (0 : Int32))] (.int (0 : Int32))) (ND : own_ND a1 tr bi sz rs ir w0 w1) (GE : own_GE n0 a1 tr bi sz rs ir w0 w1) (hrc : rc = 0 ∨ rc = 1) :
  MetFree l (⟨"com/example/arcward/arcward/solver/Domains", "markResized", "(I)V"⟩ : MethodName) (head1 (Jvm.Cond.code (⟨"com/example/arcward/arcward/solver/Domains", "markResized", "(I)V"⟩ : MethodName) prog_50_method_23_code 2 none :: ws) ({ frames := 0, cells := 0, slots := 0, locals := 0 } : Room)) (fun a U => a = #[(.ref a1), (.int (1 : Int32))] ∧ Z.Warmed39 U.vm ∧ U.heap = h0) (fun _ _ _ _ _ => True) (fun _ U o U' => ∃ v L, o = .returned v ∧ Q41_1 Z a1 tr bi sz rs ir w0 w1 rb krs kir tl rc u0 u1 eb0 h0 n0 v U'.heap L ∧ FrameEnd U o U' L ({ frames := 0, cells := 0, slots := 0, locals := 0 } : Room).cells ({ frames := 0, cells := 0, slots := 0, locals := 0 } : Room).slots) := by
 refine MetFree.of_bodySF pn41 hisR ?_
 intro p e s m args below meth c s₁ Bd hml0 hP hK
 obtain ⟨rfl, hZ, hh⟩ := hP
 have hx := Bd.exec
 have hby := Bd.bytes
 have hml : c.maxLocals = 2 := hml0
 have hown : s.vm.findClass "com/example/arcward/arcward/solver/Domains" = some m.cls := findClass_of_methodNamed Bd.named
 have hnm := (name_of_methodNamed Bd.named Bd.method).1
 have X0 : Stand p l e ({ frames := 0, cells := 0, slots := 0, locals := 0 } : Room) s m #[(.ref a1), (.int (1 : Int32))] below meth c s₁ [] 0 0 := Stand.of_body Bd
 have e0 : s₁.heap = h0 := by rw [← hh, Bd.state]; rfl
 have N0 := Fr.nil n0
 have p0 : Go p.tables e below (s₁.setTop (entryFrame m #[(.ref a1), (.int (1 : Int32))] 2)) (s₁.setTop (mkF m 0 #[.val (.ref a1), .val (.int (1 : Int32))] [])) := fun t_ k_ => castTop (ef_rm41_1 m a1 tr bi sz rs ir w0 w1 rb krs kir tl rc u0 u1 eb0) k_
 rcases id hrc with r1 | r1
 ·have G7 : Fld Z h0 a1 "com/example/arcward/arcward/solver/Domains" "resizedCount" "I" (.int (0 : Int32)) := by rw [← r1]; exact F7
  have p101 : Go p.tables e below _ (s₁.setTop (mkF m 1 #[.val (.ref a1), .val (.int (1 : Int32))] [(.ref a1)])) := fun t_ k_ => p0 t_ (by
   refine XS.aloadN X0.here hx rfl (hb hby d41_0) rfl rfl ?_
   exact k_)
  obtain ⟨T102, X102, e102, st102⟩ := getF X0 hx hZ hown (host := "") (Or.inl (own_w hw 283 rfl)) Via.refl e0 F6 (g := (mkF m 1 #[.val (.ref a1), .val (.int (1 : Int32))] [(.ref a1)])) rfl rfl (hb hby d41_1)
  have p103 : Go p.tables e below _ (T102.setTop (mkF m 5 #[.val (.ref a1), .val (.int (1 : Int32))] [(.int (1 : Int32)), (.ref ir)])) := fun t_ k_ => (gc p101 st102) t_ (by
   refine XS.iloadN X102.here hx rfl (hb hby d41_4) rfl ?_
   exact k_)
  obtain ⟨cl104, Ar104, q104, S104, Ng104, H104, G104⟩ := id F10
  have hin104 := inb_of S104 (j := (1 : Int32)) ⟨by decide, by decide⟩
  have hat104 := H104.at (v := (.int (0 : Int32))) hin104 rfl
  have p105 : Go p.tables e below _ (T102.setTop (mkF m 10 #[.val (.ref a1), .val (.int (1 : Int32))] [(.ref a1)])) := fun t_ k_ => p103 t_ (by
   refine X102.baloadBooleans hx (j := (1 : Int32)) (v := (.int (0 : Int32))) (by rw [e102]; exact Ar104.1) (State.isArrayOf_alike hZ.alike Ar104.2.1) Ar104.2.2 hin104 hat104 (g := (mkF m 5 #[.val (.ref a1), .val (.int (1 : Int32))] [(.int (1 : Int32)), (.ref ir)])) rfl rfl (hb hby d41_5) _ ?_
   refine XS.ifNo X102.here hx rfl (hb hby d41_6) rfl ((if0 _ _).trans (teq (by decide : ((0 : Int32) = (0 : Int32)))).2) ?_
   refine XS.aloadN X102.here hx rfl (hb hby d41_9) rfl rfl ?_
   exact k_)
  obtain ⟨T106, X106, e106, st106⟩ := getF X102 hx hZ hown (host := "") (Or.inl (own_w hw 283 rfl)) Via.refl e102 F6 (g := (mkF m 10 #[.val (.ref a1), .val (.int (1 : Int32))] [(.ref a1)])) rfl rfl (hb hby d41_10)
  have p107 : Go p.tables e below _ (T106.setTop (mkF m 15 #[.val (.ref a1), .val (.int (1 : Int32))] [(.int (1 : Int32)), (.int (1 : Int32)), (.ref ir)])) := fun t_ k_ => (gc p105 st106) t_ (by
   refine XS.iloadN X106.here hx rfl (hb hby d41_13) rfl ?_
   refine XS.iconst X106.here hx rfl (hb hby d41_14) ?_
   exact k_)
  obtain ⟨cl108, Ar108, q108, S108, Ng108, H108, G108⟩ := id F10
  have hin108 := inb_of S108 (j := (1 : Int32)) ⟨by decide, by decide⟩
  obtain ⟨T108, h108, X108, e108, W108, st108⟩ := stZ X106 hx hZ e106 Ar108 (j := (1 : Int32)) hin108 (g := (mkF m 15 #[.val (.ref a1), .val (.int (1 : Int32))] [(.int (1 : Int32)), (.int (1 : Int32)), (.ref ir)])) rfl rfl (hb hby d41_15)
  have K109 : Keep h0 h108 [a1, rs, ir] := (Keep.refl h0 [a1, rs, ir]).wr W108 (Or.inl (List.mem_of_getElem? (i := 2) rfl))
  have N108 := Fr.snoc X108 N0 GE.2.2.2.2.2.1
  have V108 : Arv Z h108 ir kir .boolean (2 : Int32) [(.int eb0), (.int (1 : Int32))] (.int (0 : Int32)) := Arv.set Ar108 q108 S108 Ng108 H108 G108 (by decide) W108 1 rfl (Nat.le_of_ble_eq_true rfl)
  have p110 : Go p.tables e below _ (T108.setTop (mkF m 17 #[.val (.ref a1), .val (.int (1 : Int32))] [(.ref a1)])) := fun t_ k_ => (gc p107 st108) t_ (by
   refine XS.aloadN X108.here hx rfl (hb hby d41_16) rfl rfl ?_
   exact k_)
  have f111 := (F5.other W108 (Or.inl ND.2.2.2.2.1))
  obtain ⟨T112, X112, e112, st112⟩ := getF X108 hx hZ hown (host := "") (Or.inl (own_w hw 280 rfl)) Via.refl e108 f111 (g := (mkF m 17 #[.val (.ref a1), .val (.int (1 : Int32))] [(.ref a1)])) rfl rfl (hb hby d41_17)
  have p113 : Go p.tables e below _ (T112.setTop (mkF m 22 #[.val (.ref a1), .val (.int (1 : Int32))] [(.ref a1), (.ref a1), (.ref rs)])) := fun t_ k_ => (gc p110 st112) t_ (by
   refine XS.aloadN X112.here hx rfl (hb hby d41_20) rfl rfl ?_
   refine XS.dup X112.here hx rfl (hb hby d41_21) rfl rfl ?_
   exact k_)
  have f114 := (G7.other W108 (Or.inl ND.2.2.2.2.1))
  obtain ⟨T115, X115, e115, st115⟩ := getF X112 hx hZ hown (host := "") (Or.inl (own_w hw 306 rfl)) Via.refl e112 f114 (g := (mkF m 22 #[.val (.ref a1), .val (.int (1 : Int32))] [(.ref a1), (.ref a1), (.ref rs)])) rfl rfl (hb hby d41_22)
  have p116 : Go p.tables e below _ (T115.setTop (mkF m 28 #[.val (.ref a1), .val (.int (1 : Int32))] [(.int (1 : Int32)), (.ref a1), (.int (0 : Int32)), (.ref rs)])) := fun t_ k_ => (gc p113 st115) t_ (by
   refine XS.dupX1 X115.here hx rfl (hb hby d41_25) rfl rfl rfl ?_
   refine XS.iconst X115.here hx rfl (hb hby d41_26) ?_
   refine XS.iadd X115.here hx rfl (hb hby d41_27) rfl ?_
   exact k_)
  have f117 := (F0.wr W108)
  obtain ⟨T118, h118, X118, e118, W118, st118⟩ := putF X115 hx hZ hown (host := "") (Or.inl (own_w hw 306 rfl)) Via.refl e115 f114 f117 (Or.inl (own_w hw 307 rfl)) (own_w hw 90 rfl) (ty := .int) (by decide) rfl rfl (g := (mkF m 28 #[.val (.ref a1), .val (.int (1 : Int32))] [(.int (1 : Int32)), (.ref a1), (.int (0 : Int32)), (.ref rs)])) rfl rfl (hb hby d41_28)
  have K119 : Keep h0 h118 [a1, rs, ir] := K109.wr W118 (Or.inl (List.mem_of_getElem? (i := 0) rfl))
  have N118 := Fr.snoc X118 N108 GE.1
  have F118 : Fld Z h118 a1 "com/example/arcward/arcward/solver/Domains" "resizedCount" "I" (.int (1 : Int32)) := f114.same W118
  have p120 : Go p.tables e below _ (T118.setTop (mkF m 32 #[.val (.ref a1), .val (.int (1 : Int32))] [(.int (1 : Int32)), (.int (0 : Int32)), (.ref rs)])) := fun t_ k_ => (gc p116 st118) t_ (by
   refine XS.iloadN X118.here hx rfl (hb hby d41_31) rfl ?_
   exact k_)
  have f121 := ((F9.other W108 ND.2.2.2.2.2.2.2.2.2.2.2.2.2.2.2.2.2.2.2.2.2.2.1).other W118 (Ne.symm ND.2.2.2.1))
  obtain ⟨cl122, Ar122, q122, S122, Ng122, H122, G122⟩ := id f121
  have hin122 := inb_of S122 (j := (0 : Int32)) ⟨by decide, by decide⟩
  obtain ⟨T122, h122, X122, e122, W122, st122⟩ := stI X118 hx hZ e118 Ar122 (j := (0 : Int32)) hin122 (g := (mkF m 32 #[.val (.ref a1), .val (.int (1 : Int32))] [(.int (1 : Int32)), (.int (0 : Int32)), (.ref rs)])) rfl rfl (hb hby d41_32)
  have K123 : Keep h0 h122 [a1, rs, ir] := K119.wr W122 (Or.inl (List.mem_of_getElem? (i := 1) rfl))
  have N122 := Fr.snoc X122 N118 GE.2.2.2.2.1
  have V122 : Arv Z h122 rs krs .int (2 : Int32) [(.int (1 : Int32)), (.int u1)] (.int (0 : Int32)) := Arv.set Ar122 q122 S122 Ng122 H122 G122 rfl W122 0 rfl (Nat.le_of_ble_eq_true rfl)
  have f124 := ((f117.wr W118).wr W122)
  have f125 := (((F1.other W108 (Or.inl ND.2.2.2.2.1)).other W118 (Or.inr (slot_ne (Or.inl (own_w hw 265 rfl)) (Or.inl (own_w hw 307 rfl)) (by decide) (t := (.array .int)) (t' := .int) (by decide) (by decide)))).other W122 (Or.inl ND.2.2.2.1))
  have f126 := (((F2.other W108 (Or.inl ND.2.2.2.2.1)).other W118 (Or.inr (slot_ne (Or.inr (own_w hw 267 rfl)) (Or.inl (own_w hw 307 rfl)) (by decide) (t := (.array .int)) (t' := .int) (by decide) (by decide)))).other W122 (Or.inl ND.2.2.2.1))
  have f127 := (((F3.other W108 (Or.inl ND.2.2.2.2.1)).other W118 (Or.inr (slot_ne (Or.inr (own_w hw 277 rfl)) (Or.inl (own_w hw 307 rfl)) (by decide) (t := (.array (.array .long))) (t' := .int) (by decide) (by decide)))).other W122 (Or.inl ND.2.2.2.1))
  have f128 := (((F4.other W108 (Or.inl ND.2.2.2.2.1)).other W118 (Or.inr (slot_ne (Or.inr (own_w hw 279 rfl)) (Or.inl (own_w hw 307 rfl)) (by decide) (t := (.array .int)) (t' := .int) (by decide) (by decide)))).other W122 (Or.inl ND.2.2.2.1))
  have f129 := ((f111.other W118 (Or.inr (slot_ne (Or.inr (own_w hw 281 rfl)) (Or.inl (own_w hw 307 rfl)) (by decide) (t := (.array .int)) (t' := .int) (by decide) (by decide)))).other W122 (Or.inl ND.2.2.2.1))
  have f130 := (((F6.other W108 (Or.inl ND.2.2.2.2.1)).other W118 (Or.inr (slot_ne (Or.inr (own_w hw 284 rfl)) (Or.inl (own_w hw 307 rfl)) (by decide) (t := (.array .boolean)) (t' := .int) (by decide) (by decide)))).other W122 (Or.inl ND.2.2.2.1))
  have f131 := (F118.other W122 (Or.inl ND.2.2.2.1))
  have f132 := (((F8.other W108 (Or.inl ND.2.2.2.2.1)).other W118 (Or.inr (slot_ne (Or.inl (own_w hw 329 rfl)) (Or.inl (own_w hw 307 rfl)) (by decide) (t := .int) (t' := .int) (by decide) (by decide)))).other W122 (Or.inl ND.2.2.2.1))
  have f133 := ((V108.other W118 (Ne.symm ND.2.2.2.2.1)).other W122 (Ne.symm ND.2.2.2.2.2.2.2.2.2.2.2.2.2.2.2.2.2.2.2.2.2.2.1))
  obtain ⟨fs, hr, hrun, hended, hW, hsame⟩ := X122.leave (v := none) (fun _ => rfl)
  refine ⟨_, _, (gc p120 st122) _ (X122.returnOut hx Bd.returns (hb hby d41_33) hr), hrun, hended, _, _, rfl, ?_, ⟨_, rfl⟩, hW, hsame.mono (by decide) (by decide)⟩
  show Q41_1 Z a1 tr bi sz rs ir w0 w1 rb krs kir tl rc u0 u1 eb0 h0 n0 _ T122.heap _
  rw [e122]
  exact ⟨rfl, N122, K123, f124, f125, f126, f127, f128, f129, f130, (by rw [r1]; exact f131), f132, (by rw [r1]; exact V122), f133⟩
 ·have G7 : Fld Z h0 a1 "com/example/arcward/arcward/solver/Domains" "resizedCount" "I" (.int (1 : Int32)) := by rw [← r1]; exact F7
  have p134 : Go p.tables e below _ (s₁.setTop (mkF m 1 #[.val (.ref a1), .val (.int (1 : Int32))] [(.ref a1)])) := fun t_ k_ => p0 t_ (by
   refine XS.aloadN X0.here hx rfl (hb hby d41_0) rfl rfl ?_
   exact k_)
  obtain ⟨T135, X135, e135, st135⟩ := getF X0 hx hZ hown (host := "") (Or.inl (own_w hw 283 rfl)) Via.refl e0 F6 (g := (mkF m 1 #[.val (.ref a1), .val (.int (1 : Int32))] [(.ref a1)])) rfl rfl (hb hby d41_1)
  have p136 : Go p.tables e below _ (T135.setTop (mkF m 5 #[.val (.ref a1), .val (.int (1 : Int32))] [(.int (1 : Int32)), (.ref ir)])) := fun t_ k_ => (gc p134 st135) t_ (by
   refine XS.iloadN X135.here hx rfl (hb hby d41_4) rfl ?_
   exact k_)
  obtain ⟨cl137, Ar137, q137, S137, Ng137, H137, G137⟩ := id F10
  have hin137 := inb_of S137 (j := (1 : Int32)) ⟨by decide, by decide⟩
  have hat137 := H137.at (v := (.int (0 : Int32))) hin137 rfl
  have p138 : Go p.tables e below _ (T135.setTop (mkF m 10 #[.val (.ref a1), .val (.int (1 : Int32))] [(.ref a1)])) := fun t_ k_ => p136 t_ (by
   refine X135.baloadBooleans hx (j := (1 : Int32)) (v := (.int (0 : Int32))) (by rw [e135]; exact Ar137.1) (State.isArrayOf_alike hZ.alike Ar137.2.1) Ar137.2.2 hin137 hat137 (g := (mkF m 5 #[.val (.ref a1), .val (.int (1 : Int32))] [(.int (1 : Int32)), (.ref ir)])) rfl rfl (hb hby d41_5) _ ?_
   refine XS.ifNo X135.here hx rfl (hb hby d41_6) rfl ((if0 _ _).trans (teq (by decide : ((0 : Int32) = (0 : Int32)))).2) ?_
   refine XS.aloadN X135.here hx rfl (hb hby d41_9) rfl rfl ?_
   exact k_)
  obtain ⟨T139, X139, e139, st139⟩ := getF X135 hx hZ hown (host := "") (Or.inl (own_w hw 283 rfl)) Via.refl e135 F6 (g := (mkF m 10 #[.val (.ref a1), .val (.int (1 : Int32))] [(.ref a1)])) rfl rfl (hb hby d41_10)
  have p140 : Go p.tables e below _ (T139.setTop (mkF m 15 #[.val (.ref a1), .val (.int (1 : Int32))] [(.int (1 : Int32)), (.int (1 : Int32)), (.ref ir)])) := fun t_ k_ => (gc p138 st139) t_ (by
   refine XS.iloadN X139.here hx rfl (hb hby d41_13) rfl ?_
   refine XS.iconst X139.here hx rfl (hb hby d41_14) ?_
   exact k_)
  obtain ⟨cl141, Ar141, q141, S141, Ng141, H141, G141⟩ := id F10
  have hin141 := inb_of S141 (j := (1 : Int32)) ⟨by decide, by decide⟩
  obtain ⟨T141, h141, X141, e141, W141, st141⟩ := stZ X139 hx hZ e139 Ar141 (j := (1 : Int32)) hin141 (g := (mkF m 15 #[.val (.ref a1), .val (.int (1 : Int32))] [(.int (1 : Int32)), (.int (1 : Int32)), (.ref ir)])) rfl rfl (hb hby d41_15)
  have K142 : Keep h0 h141 [a1, rs, ir] := (Keep.refl h0 [a1, rs, ir]).wr W141 (Or.inl (List.mem_of_getElem? (i := 2) rfl))
  have N141 := Fr.snoc X141 N0 GE.2.2.2.2.2.1
  have V141 : Arv Z h141 ir kir .boolean (2 : Int32) [(.int eb0), (.int (1 : Int32))] (.int (0 : Int32)) := Arv.set Ar141 q141 S141 Ng141 H141 G141 (by decide) W141 1 rfl (Nat.le_of_ble_eq_true rfl)
  have p143 : Go p.tables e below _ (T141.setTop (mkF m 17 #[.val (.ref a1), .val (.int (1 : Int32))] [(.ref a1)])) := fun t_ k_ => (gc p140 st141) t_ (by
   refine XS.aloadN X141.here hx rfl (hb hby d41_16) rfl rfl ?_
   exact k_)
  have f144 := (F5.other W141 (Or.inl ND.2.2.2.2.1))
  obtain ⟨T145, X145, e145, st145⟩ := getF X141 hx hZ hown (host := "") (Or.inl (own_w hw 280 rfl)) Via.refl e141 f144 (g := (mkF m 17 #[.val (.ref a1), .val (.int (1 : Int32))] [(.ref a1)])) rfl rfl (hb hby d41_17)
  have p146 : Go p.tables e below _ (T145.setTop (mkF m 22 #[.val (.ref a1), .val (.int (1 : Int32))] [(.ref a1), (.ref a1), (.ref rs)])) := fun t_ k_ => (gc p143 st145) t_ (by
   refine XS.aloadN X145.here hx rfl (hb hby d41_20) rfl rfl ?_
   refine XS.dup X145.here hx rfl (hb hby d41_21) rfl rfl ?_
   exact k_)
  have f147 := (G7.other W141 (Or.inl ND.2.2.2.2.1))
  obtain ⟨T148, X148, e148, st148⟩ := getF X145 hx hZ hown (host := "") (Or.inl (own_w hw 306 rfl)) Via.refl e145 f147 (g := (mkF m 22 #[.val (.ref a1), .val (.int (1 : Int32))] [(.ref a1), (.ref a1), (.ref rs)])) rfl rfl (hb hby d41_22)
  have p149 : Go p.tables e below _ (T148.setTop (mkF m 28 #[.val (.ref a1), .val (.int (1 : Int32))] [(.int (2 : Int32)), (.ref a1), (.int (1 : Int32)), (.ref rs)])) := fun t_ k_ => (gc p146 st148) t_ (by
   refine XS.dupX1 X148.here hx rfl (hb hby d41_25) rfl rfl rfl ?_
   refine XS.iconst X148.here hx rfl (hb hby d41_26) ?_
   refine XS.iadd X148.here hx rfl (hb hby d41_27) rfl ?_
   exact k_)
  have f150 := (F0.wr W141)
  obtain ⟨T151, h151, X151, e151, W151, st151⟩ := putF X148 hx hZ hown (host := "") (Or.inl (own_w hw 306 rfl)) Via.refl e148 f147 f150 (Or.inl (own_w hw 307 rfl)) (own_w hw 90 rfl) (ty := .int) (by decide) rfl rfl (g := (mkF m 28 #[.val (.ref a1), .val (.int (1 : Int32))] [(.int (2 : Int32)), (.ref a1), (.int (1 : Int32)), (.ref rs)])) rfl rfl (hb hby d41_28)
  have K152 : Keep h0 h151 [a1, rs, ir] := K142.wr W151 (Or.inl (List.mem_of_getElem? (i := 0) rfl))
  have N151 := Fr.snoc X151 N141 GE.1
  have F151 : Fld Z h151 a1 "com/example/arcward/arcward/solver/Domains" "resizedCount" "I" (.int (2 : Int32)) := f147.same W151
  have p153 : Go p.tables e below _ (T151.setTop (mkF m 32 #[.val (.ref a1), .val (.int (1 : Int32))] [(.int (1 : Int32)), (.int (1 : Int32)), (.ref rs)])) := fun t_ k_ => (gc p149 st151) t_ (by
   refine XS.iloadN X151.here hx rfl (hb hby d41_31) rfl ?_
   exact k_)
  have f154 := ((F9.other W141 ND.2.2.2.2.2.2.2.2.2.2.2.2.2.2.2.2.2.2.2.2.2.2.1).other W151 (Ne.symm ND.2.2.2.1))
  obtain ⟨cl155, Ar155, q155, S155, Ng155, H155, G155⟩ := id f154
  have hin155 := inb_of S155 (j := (1 : Int32)) ⟨by decide, by decide⟩
  obtain ⟨T155, h155, X155, e155, W155, st155⟩ := stI X151 hx hZ e151 Ar155 (j := (1 : Int32)) hin155 (g := (mkF m 32 #[.val (.ref a1), .val (.int (1 : Int32))] [(.int (1 : Int32)), (.int (1 : Int32)), (.ref rs)])) rfl rfl (hb hby d41_32)
  have K156 : Keep h0 h155 [a1, rs, ir] := K152.wr W155 (Or.inl (List.mem_of_getElem? (i := 1) rfl))
  have N155 := Fr.snoc X155 N151 GE.2.2.2.2.1
  have V155 : Arv Z h155 rs krs .int (2 : Int32) [(.int u0), (.int (1 : Int32))] (.int (0 : Int32)) := Arv.set Ar155 q155 S155 Ng155 H155 G155 rfl W155 1 rfl (Nat.le_of_ble_eq_true rfl)
  have f157 := ((f150.wr W151).wr W155)
  have f158 := (((F1.other W141 (Or.inl ND.2.2.2.2.1)).other W151 (Or.inr (slot_ne (Or.inl (own_w hw 265 rfl)) (Or.inl (own_w hw 307 rfl)) (by decide) (t := (.array .int)) (t' := .int) (by decide) (by decide)))).other W155 (Or.inl ND.2.2.2.1))
  have f159 := (((F2.other W141 (Or.inl ND.2.2.2.2.1)).other W151 (Or.inr (slot_ne (Or.inr (own_w hw 267 rfl)) (Or.inl (own_w hw 307 rfl)) (by decide) (t := (.array .int)) (t' := .int) (by decide) (by decide)))).other W155 (Or.inl ND.2.2.2.1))
  have f160 := (((F3.other W141 (Or.inl ND.2.2.2.2.1)).other W151 (Or.inr (slot_ne (Or.inr (own_w hw 277 rfl)) (Or.inl (own_w hw 307 rfl)) (by decide) (t := (.array (.array .long))) (t' := .int) (by decide) (by decide)))).other W155 (Or.inl ND.2.2.2.1))
  have f161 := (((F4.other W141 (Or.inl ND.2.2.2.2.1)).other W151 (Or.inr (slot_ne (Or.inr (own_w hw 279 rfl)) (Or.inl (own_w hw 307 rfl)) (by decide) (t := (.array .int)) (t' := .int) (by decide) (by decide)))).other W155 (Or.inl ND.2.2.2.1))
  have f162 := ((f144.other W151 (Or.inr (slot_ne (Or.inr (own_w hw 281 rfl)) (Or.inl (own_w hw 307 rfl)) (by decide) (t := (.array .int)) (t' := .int) (by decide) (by decide)))).other W155 (Or.inl ND.2.2.2.1))
  have f163 := (((F6.other W141 (Or.inl ND.2.2.2.2.1)).other W151 (Or.inr (slot_ne (Or.inr (own_w hw 284 rfl)) (Or.inl (own_w hw 307 rfl)) (by decide) (t := (.array .boolean)) (t' := .int) (by decide) (by decide)))).other W155 (Or.inl ND.2.2.2.1))
  have f164 := (F151.other W155 (Or.inl ND.2.2.2.1))
  have f165 := (((F8.other W141 (Or.inl ND.2.2.2.2.1)).other W151 (Or.inr (slot_ne (Or.inl (own_w hw 329 rfl)) (Or.inl (own_w hw 307 rfl)) (by decide) (t := .int) (t' := .int) (by decide) (by decide)))).other W155 (Or.inl ND.2.2.2.1))
  have f166 := ((V141.other W151 (Ne.symm ND.2.2.2.2.1)).other W155 (Ne.symm ND.2.2.2.2.2.2.2.2.2.2.2.2.2.2.2.2.2.2.2.2.2.2.1))
  obtain ⟨fs, hr, hrun, hended, hW, hsame⟩ := X155.leave (v := none) (fun _ => rfl)
  refine ⟨_, _, (gc p153 st155) _ (X155.returnOut hx Bd.returns (hb hby d41_33) hr), hrun, hended, _, _, rfl, ?_, ⟨_, rfl⟩, hW, hsame.mono (by decide) (by decide)⟩
  show Q41_1 Z a1 tr bi sz rs ir w0 w1 rb krs kir tl rc u0 u1 eb0 h0 n0 _ T155.heap _
  rw [e155]
  exact ⟨rfl, N155, K156, f157, f158, f159, f160, f161, f162, f163, (by rw [r1]; exact f164), f165, (by rw [r1]; exact V155), f166⟩
theorem d40_0 : decode prog_50_method_19_code 0 = .ok (.aload_n 0, 1) := by decide +kernel
theorem d40_1 : decode prog_50_method_19_code 1 = .ok (.getfield 30, 3) := by decide +kernel
theorem d40_4 : decode prog_50_method_19_code 4 = .ok (.iload_n 1, 1) := by decide +kernel
theorem d40_5 : decode prog_50_method_19_code 5 = .ok (.aaload, 1) := by decide +kernel
theorem d40_6 : decode prog_50_method_19_code 6 = .ok (.iload_n 2, 1) := by decide +kernel
theorem d40_7 : decode prog_50_method_19_code 7 = .ok (.bipush 6, 2) := by decide +kernel
theorem d40_9 : decode prog_50_method_19_code 9 = .ok (.iushr, 1) := by decide +kernel
theorem d40_10 : decode prog_50_method_19_code 10 = .ok (.dup2, 1) := by decide +kernel
theorem d40_11 : decode prog_50_method_19_code 11 = .ok (.laload, 1) := by decide +kernel
theorem d40_12 : decode prog_50_method_19_code 12 = .ok (.lconst 1, 1) := by decide +kernel
theorem d40_13 : decode prog_50_method_19_code 13 = .ok (.iload_n 2, 1) := by decide +kernel
theorem d40_14 : decode prog_50_method_19_code 14 = .ok (.lshl, 1) := by decide +kernel
theorem d40_15 : decode prog_50_method_19_code 15 = .ok (.ldc2_w 97, 3) := by decide +kernel
theorem d40_18 : decode prog_50_method_19_code 18 = .ok (.lxor, 1) := by decide +kernel
theorem d40_19 : decode prog_50_method_19_code 19 = .ok (.land, 1) := by decide +kernel
theorem d40_20 : decode prog_50_method_19_code 20 = .ok (.lastore, 1) := by decide +kernel
theorem d40_21 : decode prog_50_method_19_code 21 = .ok (.aload_n 0, 1) := by decide +kernel
theorem d40_22 : decode prog_50_method_19_code 22 = .ok (.getfield 34, 3) := by decide +kernel
theorem d40_25 : decode prog_50_method_19_code 25 = .ok (.iload_n 1, 1) := by decide +kernel
theorem d40_26 : decode prog_50_method_19_code 26 = .ok (.dup2, 1) := by decide +kernel
theorem d40_27 : decode prog_50_method_19_code 27 = .ok (.iaload, 1) := by decide +kernel
theorem d40_28 : decode prog_50_method_19_code 28 = .ok (.iconst 1, 1) := by decide +kernel
theorem d40_29 : decode prog_50_method_19_code 29 = .ok (.isub, 1) := by decide +kernel
theorem d40_30 : decode prog_50_method_19_code 30 = .ok (.iastore, 1) := by decide +kernel
theorem d40_31 : decode prog_50_method_19_code 31 = .ok (.aload_n 0, 1) := by decide +kernel
theorem d40_32 : decode prog_50_method_19_code 32 = .ok (.iload_n 1, 1) := by decide +kernel
theorem d40_33 : decode prog_50_method_19_code 33 = .ok (.invokevirtual 111, 3) := by decide +kernel
theorem d40_36 : decode prog_50_method_19_code 36 = .ok (.iload_n 3, 1) := by decide +kernel
theorem d40_37 : decode prog_50_method_19_code 37 = .ok (.iconst (-1), 1) := by decide +kernel
theorem d40_38 : decode prog_50_method_19_code 38 = .ok (.if_icmp .eq 13, 3) := by decide +kernel
theorem d40_51 : decode prog_50_method_19_code 51 = .ok (.aload_n 0, 1) := by decide +kernel
theorem d40_52 : decode prog_50_method_19_code 52 = .ok (.getfield 115, 3) := by decide +kernel
theorem d40_55 : decode prog_50_method_19_code 55 = .ok (.aload_n 0, 1) := by decide +kernel
theorem d40_56 : decode prog_50_method_19_code 56 = .ok (.getfield 7, 3) := by decide +kernel
theorem d40_59 : decode prog_50_method_19_code 59 = .ok (.arraylength, 1) := by decide +kernel
theorem d40_60 : decode prog_50_method_19_code 60 = .ok (.if_icmp .ne 21, 3) := by decide +kernel
theorem d40_81 : decode prog_50_method_19_code 81 = .ok (.aload_n 0, 1) := by decide +kernel
theorem d40_82 : decode prog_50_method_19_code 82 = .ok (.getfield 7, 3) := by decide +kernel
theorem d40_85 : decode prog_50_method_19_code 85 = .ok (.aload_n 0, 1) := by decide +kernel
theorem d40_86 : decode prog_50_method_19_code 86 = .ok (.dup, 1) := by decide +kernel
theorem d40_87 : decode prog_50_method_19_code 87 = .ok (.getfield 115, 3) := by decide +kernel
theorem d40_90 : decode prog_50_method_19_code 90 = .ok (.dup_x1, 1) := by decide +kernel
theorem d40_91 : decode prog_50_method_19_code 91 = .ok (.iconst 1, 1) := by decide +kernel
theorem d40_92 : decode prog_50_method_19_code 92 = .ok (.iadd, 1) := by decide +kernel
theorem d40_93 : decode prog_50_method_19_code 93 = .ok (.putfield 115, 3) := by decide +kernel
theorem d40_96 : decode prog_50_method_19_code 96 = .ok (.iload_n 1, 1) := by decide +kernel
theorem d40_97 : decode prog_50_method_19_code 97 = .ok (.iastore, 1) := by decide +kernel
theorem d40_98 : decode prog_50_method_19_code 98 = .ok (.aload_n 0, 1) := by decide +kernel
theorem d40_99 : decode prog_50_method_19_code 99 = .ok (.getfield 7, 3) := by decide +kernel
theorem d40_102 : decode prog_50_method_19_code 102 = .ok (.aload_n 0, 1) := by decide +kernel
theorem d40_103 : decode prog_50_method_19_code 103 = .ok (.dup, 1) := by decide +kernel
theorem d40_104 : decode prog_50_method_19_code 104 = .ok (.getfield 115, 3) := by decide +kernel
theorem d40_107 : decode prog_50_method_19_code 107 = .ok (.dup_x1, 1) := by decide +kernel
theorem d40_108 : decode prog_50_method_19_code 108 = .ok (.iconst 1, 1) := by decide +kernel
theorem d40_109 : decode prog_50_method_19_code 109 = .ok (.iadd, 1) := by decide +kernel
theorem d40_110 : decode prog_50_method_19_code 110 = .ok (.putfield 115, 3) := by decide +kernel
theorem d40_113 : decode prog_50_method_19_code 113 = .ok (.iload_n 2, 1) := by decide +kernel
theorem d40_114 : decode prog_50_method_19_code 114 = .ok (.iastore, 1) := by decide +kernel
theorem d40_115 : decode prog_50_method_19_code 115 = .ok (.aload_n 0, 1) := by decide +kernel
theorem d40_116 : decode prog_50_method_19_code 116 = .ok (.getfield 7, 3) := by decide +kernel
theorem d40_119 : decode prog_50_method_19_code 119 = .ok (.aload_n 0, 1) := by decide +kernel
theorem d40_120 : decode prog_50_method_19_code 120 = .ok (.dup, 1) := by decide +kernel
theorem d40_121 : decode prog_50_method_19_code 121 = .ok (.getfield 115, 3) := by decide +kernel
theorem d40_124 : decode prog_50_method_19_code 124 = .ok (.dup_x1, 1) := by decide +kernel
theorem d40_125 : decode prog_50_method_19_code 125 = .ok (.iconst 1, 1) := by decide +kernel
theorem d40_126 : decode prog_50_method_19_code 126 = .ok (.iadd, 1) := by decide +kernel
theorem d40_127 : decode prog_50_method_19_code 127 = .ok (.putfield 115, 3) := by decide +kernel
theorem d40_130 : decode prog_50_method_19_code 130 = .ok (.iload_n 3, 1) := by decide +kernel
theorem d40_131 : decode prog_50_method_19_code 131 = .ok (.iastore, 1) := by decide +kernel
theorem d40_132 : decode prog_50_method_19_code 132 = .ok (.return_, 1) := by decide +kernel
theorem pd18 : parseMethodDescriptor "(I)V" = some ⟨[.int], none⟩ := by decide +kernel
theorem pn40 : plainFor (⟨"com/example/arcward/arcward/solver/Domains", "remove", "(III)V"⟩ : MethodName) = true := plainFor_of_name (by first | (simp [plainName, overriddenIn]; done) | decide +kernel)
theorem ef_rm40_0 (m : MethodId) (a1 : Addr) (tr : Addr) (bi : Addr) (sz : Addr) (rs : Addr) (ir : Addr) (w0 : Addr) (w1 : Addr) (rb : Addr) (ktr : ClassId) (kbi : ClassId) (ksz : ClassId) (krs : ClassId) (kir : ClassId) (kw0 : ClassId) (kw1 : ClassId) (q0 : Int64) (q1 : Int64) (s0 : Int32) (s1 : Int32) (u0 : Int32) (u1 : Int32) (eb1 : Int32) (tvs : List Value) (t : Nat) (rc : Int32) (p3 : Int32) : entryFrame m #[(.ref a1), (.int (0 : Int32)), (.int p3), (.int (-1 : Int32))] 4 = mkF m 0 #[.val (.ref a1), .val (.int (0 : Int32)), .val (.int p3), .val (.int (-1 : Int32))] [] := by first | (simp [entryFrame, mkF, argsToLocals, Value.category]; done) | rfl
def Q40_0 (Z : State) (a1 : Addr) (tr : Addr) (bi : Addr) (sz : Addr) (rs : Addr) (ir : Addr) (w0 : Addr) (w1 : Addr) (rb : Addr) (ktr : ClassId) (kbi : ClassId) (ksz : ClassId) (krs : ClassId) (kir : ClassId) (kw0 : ClassId) (kw1 : ClassId) (q0 : Int64) (q1 : Int64) (s0 : Int32) (s1 : Int32) (u0 : Int32) (u1 : Int32) (eb1 : Int32) (tvs : List Value) (t : Nat) (rc : Int32) (p3 : Int32) (h0 : Heap) (n0 : Nat) (v : Option Value) (h : Heap) (L : List Loc) : Prop := ∃ (qn : Int64) (sn : Int32) (tvn : List Value), v = none ∧ Fr n0 L ∧ (Keep h0 h [a1, tr, sz, rs, ir, w0]) ∧ (Exa Z h a1 "com/example/arcward/arcward/solver/Domains") ∧ (Fld Z h a1 "com/example/arcward/arcward/solver/Domains" "trail" "[I" (.ref tr)) ∧ (Fld Z h a1 "com/example/arcward/arcward/solver/Domains" "removedBy" "[I" (.ref rb)) ∧ (Fld Z h a1 "com/example/arcward/arcward/solver/Domains" "bits" "[[J" (.ref bi)) ∧ (Fld Z h a1 "com/example/arcward/arcward/solver/Domains" "sizes" "[I" (.ref sz)) ∧ (Fld Z h a1 "com/example/arcward/arcward/solver/Domains" "resized" "[I" (.ref rs)) ∧ (Fld Z h a1 "com/example/arcward/arcward/solver/Domains" "inResized" "[Z" (.ref ir)) ∧ (Fld Z h a1 "com/example/arcward/arcward/solver/Domains" "resizedCount" "I" (.int (rc + (1 : Int32)))) ∧ (Fld Z h a1 "com/example/arcward/arcward/solver/Domains" "trailLength" "I" (.int (Int32.ofNat (t + 3)))) ∧ (Arv Z h tr ktr .int (96 : Int32) tvn (.int (0 : Int32))) ∧ (Arv Z h bi kbi (.array .long) (2 : Int32) [(.ref w0), (.ref w1)] .null) ∧ (Arv Z h sz ksz .int (2 : Int32) [(.int sn), (.int s1)] (.int (0 : Int32))) ∧ (Arv Z h rs krs .int (2 : Int32) [(.int (own_m0 rc (0 : Int32) u0)), (.int (own_m1 rc (0 : Int32) u1))] (.int (0 : Int32))) ∧ (Arv Z h ir kir .boolean (2 : Int32) [(.int (1 : Int32)), (.int eb1)] (.int (0 : Int32))) ∧ (Arv Z h w0 kw0 .long (1 : Int32) [(.long qn)] (.long (0 : Int64))) ∧ (Arv Z h w1 kw1 .long (1 : Int32) [(.long q1)] (.long (0 : Int64))) ∧ (tvn.length = 96)
set_option maxRecDepth 65536 in
set_option maxHeartbeats 40000000 in
theorem rm40_0 (l : Launch) (Z : State) (a0 : Array Value) (hw : ∀ d ∈ tables_1, d.before a0 Z = true) (ws : List Jvm.Cond) (a1 : Addr) (tr : Addr) (bi : Addr) (sz : Addr) (rs : Addr) (ir : Addr) (w0 : Addr) (w1 : Addr) (rb : Addr) (ktr : ClassId) (kbi : ClassId) (ksz : ClassId) (krs : ClassId) (kir : ClassId) (kw0 : ClassId) (kw1 : ClassId) (q0 : Int64) (q1 : Int64) (s0 : Int32) (s1 : Int32) (u0 : Int32) (u1 : Int32) (eb1 : Int32) (tvs : List Value) (t : Nat) (rc : Int32) (p3 : Int32) (h0 : Heap) (n0 : Nat) (Z0 : n0 ≤ h0.size) (F0 : Exa Z h0 a1 "com/example/arcward/arcward/solver/Domains") (F1 : Fld Z h0 a1 "com/example/arcward/arcward/solver/Domains" "trail" "[I" (.ref tr)) (F2 : Fld Z h0 a1 "com/example/arcward/arcward/solver/Domains" "removedBy" "[I" (.ref rb)) (F3 : Fld Z h0 a1 "com/example/arcward/arcward/solver/Domains" "bits" "[[J" (.ref bi)) (F4 : Fld Z h0 a1 "com/example/arcward/arcward/solver/Domains" "sizes" "[I" (.ref sz)) (F5 : Fld Z h0 a1 "com/example/arcward/arcward/solver/Domains" "resized" "[I" (.ref rs)) (F6 : Fld Z h0 a1 "com/example/arcward/arcward/solver/Domains" "inResized" "[Z" (.ref ir)) (F7 : Fld Z h0 a1 "com/example/arcward/arcward/solver/Domains" "resizedCount" "I" (.int rc)) (F8 : Fld Z h0 a1 "com/example/arcward/arcward/solver/Domains" "trailLength" "I" (.int (Int32.ofNat t))) (F9 : Arv Z h0 tr ktr .int (96 : Int32) tvs (.int (0 : Int32))) (F10 : Arv Z h0 bi kbi (.array .long) (2 : Int32) [(.ref w0), (.ref w1)] .null) (F11 : Arv Z h0 sz ksz .int (2 : Int32) [(.int s0), (.int s1)] (.int (0 : Int32))) (F12 : Arv Z h0 rs krs .int (2 : Int32) [(.int u0), (.int u1)] (.int (0 : Int32))) (F13 : Arv Z h0 ir kir .boolean (2 : Int32) [(.int (0 : Int32)), (.int eb1)] (.int (0 : Int32))) (F14 : Arv Z h0 w0 kw0 .long (1 : Int32) [(.long q0)] (.long (0 : Int64))) (F15 : Arv Z h0 w1 kw1 .long (1 : Int32) [(.long q1)] (.long (0 : Int64))) (ND : own_ND a1 tr bi sz rs ir w0 w1) (GE : own_GE n0 a1 tr bi sz rs ir w0 w1) (hrc : rc = 0 ∨ rc = 1) (ht : t ≤ 20) (htl : tvs.length = 96) (hv : ((p3.toUInt32 >>> (6 : UInt32)).toInt32) = (0 : Int32)) :
  MetFree l (⟨"com/example/arcward/arcward/solver/Domains", "remove", "(III)V"⟩ : MethodName) (head1 (Jvm.Cond.code (⟨"com/example/arcward/arcward/solver/Domains", "remove", "(III)V"⟩ : MethodName) prog_50_method_19_code 4 none :: ws) ({ frames := 1, cells := 0, slots := 0, locals := 13 } : Room)) (fun a U => a = #[(.ref a1), (.int (0 : Int32)), (.int p3), (.int (-1 : Int32))] ∧ Z.Warmed39 U.vm ∧ U.heap = h0) (fun _ _ _ _ _ => True) (fun _ U o U' => ∃ v L, o = .returned v ∧ Q40_0 Z a1 tr bi sz rs ir w0 w1 rb ktr kbi ksz krs kir kw0 kw1 q0 q1 s0 s1 u0 u1 eb1 tvs t rc p3 h0 n0 v U'.heap L ∧ FrameEnd U o U' L ({ frames := 1, cells := 0, slots := 0, locals := 13 } : Room).cells ({ frames := 1, cells := 0, slots := 0, locals := 13 } : Room).slots) := by
 refine MetFree.of_bodySF pn40 hisR ?_
 intro p e s m args below meth c s₁ Bd hml0 hP hK
 obtain ⟨rfl, hZ, hh⟩ := hP
 have hx := Bd.exec
 have hby := Bd.bytes
 have hml : c.maxLocals = 4 := hml0
 have hown : s.vm.findClass "com/example/arcward/arcward/solver/Domains" = some m.cls := findClass_of_methodNamed Bd.named
 have hnm := (name_of_methodNamed Bd.named Bd.method).1
 have X0 : Stand p l e ({ frames := 1, cells := 0, slots := 0, locals := 13 } : Room) s m #[(.ref a1), (.int (0 : Int32)), (.int p3), (.int (-1 : Int32))] below meth c s₁ [] 0 0 := Stand.of_body Bd
 have e0 : s₁.heap = h0 := by rw [← hh, Bd.state]; rfl
 have N0 := Fr.nil n0
 have p0 : Go p.tables e below (s₁.setTop (entryFrame m #[(.ref a1), (.int (0 : Int32)), (.int p3), (.int (-1 : Int32))] 4)) (s₁.setTop (mkF m 0 #[.val (.ref a1), .val (.int (0 : Int32)), .val (.int p3), .val (.int (-1 : Int32))] [])) := fun t_ k_ => castTop (ef_rm40_0 m a1 tr bi sz rs ir w0 w1 rb ktr kbi ksz krs kir kw0 kw1 q0 q1 s0 s1 u0 u1 eb1 tvs t rc p3) k_
 have p101 : Go p.tables e below _ (s₁.setTop (mkF m 1 #[.val (.ref a1), .val (.int (0 : Int32)), .val (.int p3), .val (.int (-1 : Int32))] [(.ref a1)])) := fun t_ k_ => p0 t_ (by
  refine XS.aloadN X0.here hx rfl (hb hby d40_0) rfl rfl ?_
  exact k_)
 obtain ⟨T102, X102, e102, st102⟩ := getF X0 hx hZ hown (host := "") (Or.inl (own_w hw 276 rfl)) Via.refl e0 F3 (g := (mkF m 1 #[.val (.ref a1), .val (.int (0 : Int32)), .val (.int p3), .val (.int (-1 : Int32))] [(.ref a1)])) rfl rfl (hb hby d40_1)
 have p103 : Go p.tables e below _ (T102.setTop (mkF m 5 #[.val (.ref a1), .val (.int (0 : Int32)), .val (.int p3), .val (.int (-1 : Int32))] [(.int (0 : Int32)), (.ref bi)])) := fun t_ k_ => (gc p101 st102) t_ (by
  refine XS.iloadN X102.here hx rfl (hb hby d40_4) rfl ?_
  exact k_)
 obtain ⟨cl104, Ar104, q104, S104, Ng104, H104, G104⟩ := id F10
 have hin104 := inb_of S104 (j := (0 : Int32)) ⟨by decide, by decide⟩
 have hat104 := H104.at (v := (.ref w0)) hin104 rfl
 have p105 : Go p.tables e below _ (T102.setTop (mkF m 10 #[.val (.ref a1), .val (.int (0 : Int32)), .val (.int p3), .val (.int (-1 : Int32))] [(.int ((p3.toUInt32 >>> (6 : UInt32)).toInt32)), (.ref w0)])) := fun t_ k_ => p103 t_ (by
  refine X102.aaload hx (j := (0 : Int32)) (v := (.ref w0)) (by rw [e102]; exact Ar104.1) (State.isArrayOf_alike hZ.alike Ar104.2.1) rfl Ar104.2.2 hin104 hat104 (g := (mkF m 5 #[.val (.ref a1), .val (.int (0 : Int32)), .val (.int p3), .val (.int (-1 : Int32))] [(.int (0 : Int32)), (.ref bi)])) rfl rfl (hb hby d40_5) _ ?_
  refine XS.iloadN X102.here hx rfl (hb hby d40_6) rfl ?_
  refine XS.bipush X102.here hx rfl (hb hby d40_7) ?_
  refine XS.iushr X102.here hx rfl (hb hby d40_9) rfl ?_
  exact k_)
 have p106 : Go p.tables e below (s₁.setTop (entryFrame m #[(.ref a1), (.int (0 : Int32)), (.int p3), (.int (-1 : Int32))] 4)) (T102.setTop (mkF m 10 #[.val (.ref a1), .val (.int (0 : Int32)), .val (.int p3), .val (.int (-1 : Int32))] [(.int (0 : Int32)), (.ref w0)])) := by have z := p105; rw [hv] at z; exact z
 have p107 : Go p.tables e below _ (T102.setTop (mkF m 11 #[.val (.ref a1), .val (.int (0 : Int32)), .val (.int p3), .val (.int (-1 : Int32))] [(.int (0 : Int32)), (.ref w0), (.int (0 : Int32)), (.ref w0)])) := fun t_ k_ => p106 t_ (by
  jvm_step X102.here [X102.here.top, hx, (hb hby d40_10), Value.category]
  show Steps p.tables e below (T102.setTop (mkF m 11 #[.val (.ref a1), .val (.int (0 : Int32)), .val (.int p3), .val (.int (-1 : Int32))] [(.int (0 : Int32)), (.ref w0), (.int (0 : Int32)), (.ref w0)])) _
  exact k_)
 obtain ⟨cl108, Ar108, q108, S108, Ng108, H108, G108⟩ := id F14
 have hin108 := inb_of S108 (j := (0 : Int32)) ⟨by decide, by decide⟩
 have hat108 := H108.at (v := (.long q0)) hin108 rfl
 have p109 : Go p.tables e below _ (T102.setTop (mkF m 20 #[.val (.ref a1), .val (.int (0 : Int32)), .val (.int p3), .val (.int (-1 : Int32))] [(.long (q0 &&& (((1 : Int64) <<< (p3 &&& 63).toInt64) ^^^ (-1 : Int64)))), (.int (0 : Int32)), (.ref w0)])) := fun t_ k_ => p107 t_ (by
  refine X102.laload hx (j := (0 : Int32)) (v := (.long q0)) (by rw [e102]; exact Ar108.1) (State.isArrayOf_alike hZ.alike Ar108.2.1) Ar108.2.2 hin108 hat108 (g := (mkF m 11 #[.val (.ref a1), .val (.int (0 : Int32)), .val (.int p3), .val (.int (-1 : Int32))] [(.int (0 : Int32)), (.ref w0), (.int (0 : Int32)), (.ref w0)])) rfl rfl (hb hby d40_11) _ ?_
  refine XS.lconst X102.here hx rfl (hb hby d40_12) ?_
  refine XS.iloadN X102.here hx rfl (hb hby d40_13) rfl ?_
  refine XS.lshl X102.here hx rfl (hb hby d40_14) rfl ?_
  refine X102.ldc2Long hx hown (mvT hZ (own_w hw 323 rfl)) (g := (mkF m 15 #[.val (.ref a1), .val (.int (0 : Int32)), .val (.int p3), .val (.int (-1 : Int32))] [(.long ((1 : Int64) <<< (p3 &&& 63).toInt64)), (.long q0), (.int (0 : Int32)), (.ref w0)])) rfl (hb hby d40_15) _ ?_
  refine XS.lxor X102.here hx rfl (hb hby d40_18) rfl ?_
  refine XS.land X102.here hx rfl (hb hby d40_19) rfl ?_
  exact k_)
 obtain ⟨cl110, Ar110, q110, S110, Ng110, H110, G110⟩ := id F14
 have hin110 := inb_of S110 (j := (0 : Int32)) ⟨by decide, by decide⟩
 obtain ⟨T110, h110, X110, e110, W110, st110⟩ := stJ X102 hx hZ e102 Ar110 (j := (0 : Int32)) hin110 (g := (mkF m 20 #[.val (.ref a1), .val (.int (0 : Int32)), .val (.int p3), .val (.int (-1 : Int32))] [(.long (q0 &&& (((1 : Int64) <<< (p3 &&& 63).toInt64) ^^^ (-1 : Int64)))), (.int (0 : Int32)), (.ref w0)])) rfl rfl (hb hby d40_20)
 have K111 : Keep h0 h110 [a1, tr, sz, rs, ir, w0] := (Keep.refl h0 [a1, tr, sz, rs, ir, w0]).wr W110 (Or.inl (List.mem_of_getElem? (i := 5) rfl))
 have N110 := Fr.snoc X110 N0 GE.2.2.2.2.2.2.1
 have V110 : Arv Z h110 w0 kw0 .long (1 : Int32) [(.long (q0 &&& (((1 : Int64) <<< (p3 &&& 63).toInt64) ^^^ (-1 : Int64))))] (.long (0 : Int64)) := Arv.set Ar110 q110 S110 Ng110 H110 G110 rfl W110 0 rfl (Nat.le_of_ble_eq_true rfl)
 have p112 : Go p.tables e below _ (T110.setTop (mkF m 22 #[.val (.ref a1), .val (.int (0 : Int32)), .val (.int p3), .val (.int (-1 : Int32))] [(.ref a1)])) := fun t_ k_ => (gc p109 st110) t_ (by
  refine XS.aloadN X110.here hx rfl (hb hby d40_21) rfl rfl ?_
  exact k_)
 have f113 := (F4.other W110 (Or.inl ND.2.2.2.2.2.1))
 obtain ⟨T114, X114, e114, st114⟩ := getF X110 hx hZ hown (host := "") (Or.inl (own_w hw 278 rfl)) Via.refl e110 f113 (g := (mkF m 22 #[.val (.ref a1), .val (.int (0 : Int32)), .val (.int p3), .val (.int (-1 : Int32))] [(.ref a1)])) rfl rfl (hb hby d40_22)
 have p115 : Go p.tables e below _ (T114.setTop (mkF m 27 #[.val (.ref a1), .val (.int (0 : Int32)), .val (.int p3), .val (.int (-1 : Int32))] [(.int (0 : Int32)), (.ref sz), (.int (0 : Int32)), (.ref sz)])) := fun t_ k_ => (gc p112 st114) t_ (by
  refine XS.iloadN X114.here hx rfl (hb hby d40_25) rfl ?_
  jvm_step X114.here [X114.here.top, hx, (hb hby d40_26), Value.category]
  show Steps p.tables e below (T114.setTop (mkF m 27 #[.val (.ref a1), .val (.int (0 : Int32)), .val (.int p3), .val (.int (-1 : Int32))] [(.int (0 : Int32)), (.ref sz), (.int (0 : Int32)), (.ref sz)])) _
  exact k_)
 have f117 := (F11.other W110 ND.2.2.2.2.2.2.2.2.2.2.2.2.2.2.2.2.2.2.2.2.1)
 obtain ⟨cl116, Ar116, q116, S116, Ng116, H116, G116⟩ := id f117
 have hin116 := inb_of S116 (j := (0 : Int32)) ⟨by decide, by decide⟩
 have hat116 := H116.at (v := (.int s0)) hin116 rfl
 have p118 : Go p.tables e below _ (T114.setTop (mkF m 30 #[.val (.ref a1), .val (.int (0 : Int32)), .val (.int p3), .val (.int (-1 : Int32))] [(.int (s0 - (1 : Int32))), (.int (0 : Int32)), (.ref sz)])) := fun t_ k_ => p115 t_ (by
  refine X114.iaload hx (j := (0 : Int32)) (v := (.int s0)) (by rw [e114]; exact Ar116.1) (State.isArrayOf_alike hZ.alike Ar116.2.1) Ar116.2.2 hin116 hat116 (g := (mkF m 27 #[.val (.ref a1), .val (.int (0 : Int32)), .val (.int p3), .val (.int (-1 : Int32))] [(.int (0 : Int32)), (.ref sz), (.int (0 : Int32)), (.ref sz)])) rfl rfl (hb hby d40_27) _ ?_
  refine XS.iconst X114.here hx rfl (hb hby d40_28) ?_
  refine XS.isub X114.here hx rfl (hb hby d40_29) rfl ?_
  exact k_)
 obtain ⟨cl119, Ar119, q119, S119, Ng119, H119, G119⟩ := id f117
 have hin119 := inb_of S119 (j := (0 : Int32)) ⟨by decide, by decide⟩
 obtain ⟨T119, h119, X119, e119, W119, st119⟩ := stI X114 hx hZ e114 Ar119 (j := (0 : Int32)) hin119 (g := (mkF m 30 #[.val (.ref a1), .val (.int (0 : Int32)), .val (.int p3), .val (.int (-1 : Int32))] [(.int (s0 - (1 : Int32))), (.int (0 : Int32)), (.ref sz)])) rfl rfl (hb hby d40_30)
 have K120 : Keep h0 h119 [a1, tr, sz, rs, ir, w0] := K111.wr W119 (Or.inl (List.mem_of_getElem? (i := 2) rfl))
 have N119 := Fr.snoc X119 N110 GE.2.2.2.1
 have V119 : Arv Z h119 sz ksz .int (2 : Int32) [(.int (s0 - (1 : Int32))), (.int s1)] (.int (0 : Int32)) := Arv.set Ar119 q119 S119 Ng119 H119 G119 rfl W119 0 rfl (Nat.le_of_ble_eq_true rfl)
 have p121 : Go p.tables e below _ (T119.setTop (mkF m 33 #[.val (.ref a1), .val (.int (0 : Int32)), .val (.int p3), .val (.int (-1 : Int32))] [(.int (0 : Int32)), (.ref a1)])) := fun t_ k_ => (gc p118 st119) t_ (by
  refine XS.aloadN X119.here hx rfl (hb hby d40_31) rfl rfl ?_
  refine XS.iloadN X119.here hx rfl (hb hby d40_32) rfl ?_
  exact k_)
 have f122 := ((F0.wr W110).wr W119)
 have f123 := ((F1.other W110 (Or.inl ND.2.2.2.2.2.1)).other W119 (Or.inl ND.2.2.1))
 have f124 := ((F2.other W110 (Or.inl ND.2.2.2.2.2.1)).other W119 (Or.inl ND.2.2.1))
 have f125 := ((F3.other W110 (Or.inl ND.2.2.2.2.2.1)).other W119 (Or.inl ND.2.2.1))
 have f126 := (f113.other W119 (Or.inl ND.2.2.1))
 have f127 := ((F5.other W110 (Or.inl ND.2.2.2.2.2.1)).other W119 (Or.inl ND.2.2.1))
 have f128 := ((F6.other W110 (Or.inl ND.2.2.2.2.2.1)).other W119 (Or.inl ND.2.2.1))
 have f129 := ((F7.other W110 (Or.inl ND.2.2.2.2.2.1)).other W119 (Or.inl ND.2.2.1))
 have f130 := ((F8.other W110 (Or.inl ND.2.2.2.2.2.1)).other W119 (Or.inl ND.2.2.1))
 have f131 := ((F12.other W110 ND.2.2.2.2.2.2.2.2.2.2.2.2.2.2.2.2.2.2.2.2.2.2.2.1).other W119 (Ne.symm ND.2.2.2.2.2.2.2.2.2.2.2.2.2.2.2.2.2.2.1))
 have f132 := ((F13.other W110 ND.2.2.2.2.2.2.2.2.2.2.2.2.2.2.2.2.2.2.2.2.2.2.2.2.2.1).other W119 (Ne.symm ND.2.2.2.2.2.2.2.2.2.2.2.2.2.2.2.2.2.2.2.1))
 obtain ⟨cq133, q133, q133'⟩ := f122.cell
 obtain ⟨_, _, ⟨T133, L133, k133, n133⟩, -, X133, ⟨Lc133, hQ133, l133, y133, z133⟩, st133⟩ := X119.privateBack hx (y := (⟨"com/example/arcward/arcward/solver/Domains", "markResized", "(I)V"⟩ : MethodName)) hown (mvT hZ (own_w hw 324 rfl)) (mvT hZ (own_w hw 325 rfl)) (selPriv (mvT hZ (own_w hw 304 rfl)) rfl (Cond.privateMethod_at (mvP hZ (own_w hw 326 rfl) (args := #[]))) (mvT hZ (own_w hw 325 rfl)) (by decide)) (Cond.privateMethod_at (mvP hZ (own_w hw 326 rfl) (args := #[]))) (mvT hZ (own_w hw 327 rfl)) (by decide) (backOf (W := 0) (rm41_0 l Z a0 hw [] a1 tr bi sz rs ir w0 w1 rb krs kir (Int32.ofNat t) rc u0 u1 eb1 h119 n0 (Nat.le_trans Z0 K120.1) f122 f123 f124 f125 f126 f127 f128 f129 f130 f131 f132 ND GE hrc) hZ (own_w hw 327 rfl) (own_w hw 91 rfl) (by decide) (by decide)) (g := (mkF m 33 #[.val (.ref a1), .val (.int (0 : Int32)), .val (.int p3), .val (.int (-1 : Int32))] [(.int (0 : Int32)), (.ref a1)])) rfl (by rw [hml]; rfl) (Steps.refl _) (a := a1) (by rw [e119]; exact q133) q133' (argsL := [(.int (0 : Int32))]) (rest := []) (lenOf pd18 rfl) rfl (by show 2 * 0 + _ ≤ _; exact Nat.le_of_eq rfl) (hb hby d40_33) (fun _ _ => ⟨rfl, e119, (by decide : 0 + 0 ≤ _), (by decide : 0 + 0 ≤ _)⟩)
 dsimp only [Pt.U, Pt.locs, Pt.cells, Pt.slots] at X133 l133 y133 z133 st133 hQ133
 subst l133 y133 z133
 obtain ⟨rfl, N133q, q133_K, q133_F0, q133_F1, q133_F2, q133_F3, q133_F4, q133_F5, q133_F6, q133_F7, q133_F8, q133_F9, q133_F10⟩ := hQ133
 have N133 := Fr.app N119 N133q
 have K134 : Keep h0 T133.heap [a1, tr, sz, rs, ir, w0] := K120.trans q133_K (allS (Or.inl (List.mem_of_getElem? (i := 0) rfl)) (allS (Or.inl (List.mem_of_getElem? (i := 3) rfl)) (allS (Or.inl (List.mem_of_getElem? (i := 4) rfl)) all0)))
 have p135 : Go p.tables e below _ (T133.setTop (mkF m 52 #[.val (.ref a1), .val (.int (0 : Int32)), .val (.int p3), .val (.int (-1 : Int32))] [(.ref a1)])) := fun t_ k_ => (gcT p121 st133) t_ (by
  refine XS.iloadN X133.here hx rfl (hb hby d40_36) rfl ?_
  refine XS.iconst X133.here hx rfl (hb hby d40_37) ?_
  refine XS.icmpYes X133.here hx rfl (pc0 := 38) (pc' := 51) rfl (hb hby d40_38) rfl (teq (by decide : ((-1 : Int32) = (-1 : Int32)))).1 (by decide) (by decide) ?_
  refine XS.aloadN X133.here hx rfl (hb hby d40_51) rfl rfl ?_
  exact k_)
 obtain ⟨T136, X136, e136, st136⟩ := getF X133 hx hZ hown (host := "") (Or.inl (own_w hw 328 rfl)) Via.refl rfl q133_F8 (g := (mkF m 52 #[.val (.ref a1), .val (.int (0 : Int32)), .val (.int p3), .val (.int (-1 : Int32))] [(.ref a1)])) rfl rfl (hb hby d40_52)
 have p137 : Go p.tables e below _ (T136.setTop (mkF m 56 #[.val (.ref a1), .val (.int (0 : Int32)), .val (.int p3), .val (.int (-1 : Int32))] [(.ref a1), (.int (Int32.ofNat t))])) := fun t_ k_ => (gc p135 st136) t_ (by
  refine XS.aloadN X136.here hx rfl (hb hby d40_55) rfl rfl ?_
  exact k_)
 obtain ⟨T138, X138, e138, st138⟩ := getF X136 hx hZ hown (host := "") (Or.inl (own_w hw 264 rfl)) Via.refl e136 q133_F1 (g := (mkF m 56 #[.val (.ref a1), .val (.int (0 : Int32)), .val (.int p3), .val (.int (-1 : Int32))] [(.ref a1), (.int (Int32.ofNat t))])) rfl rfl (hb hby d40_56)
 have f140 := (((F9.other W110 ND.2.2.2.2.2.2.2.2.2.2.2.1).other W119 ND.2.2.2.2.2.2.2.2.1).keep q133_K (ninS (Ne.symm ND.1) (ninS ND.2.2.2.2.2.2.2.2.2.1 (ninS ND.2.2.2.2.2.2.2.2.2.2.1 nin0))))
 obtain ⟨cl139, Ar139, -, S139, Ng139, -, -⟩ := id f140
 have p141 : Go p.tables e below _ (T138.setTop (mkF m 60 #[.val (.ref a1), .val (.int (0 : Int32)), .val (.int p3), .val (.int (-1 : Int32))] [(.int (96 : Int32)), (.int (Int32.ofNat t))])) := fun t_ k_ => (gc p137 st138) t_ (by
  refine X138.arraylength hx (by rw [e138]; exact Ar139.1) (State.isArrayOf_alike hZ.alike Ar139.2.1) (g := (mkF m 59 #[.val (.ref a1), .val (.int (0 : Int32)), .val (.int p3), .val (.int (-1 : Int32))] [(.ref tr), (.int (Int32.ofNat t))])) rfl rfl (hb hby d40_59) _ ?_
  rw [len_of S139 Ng139]
  show Steps p.tables e below (T138.setTop (mkF m 60 #[.val (.ref a1), .val (.int (0 : Int32)), .val (.int p3), .val (.int (-1 : Int32))] [(.int (96 : Int32)), (.int (Int32.ofNat t))])) _
  exact k_)
 have c142 : ¬ ((Int32.ofNat t) = (96 : Int32)) := own_t96 ht
 have p143 : Go p.tables e below _ (T138.setTop (mkF m 82 #[.val (.ref a1), .val (.int (0 : Int32)), .val (.int p3), .val (.int (-1 : Int32))] [(.ref a1)])) := fun t_ k_ => p141 t_ (by
  refine XS.icmpYes X138.here hx rfl (pc0 := 60) (pc' := 81) rfl (hb hby d40_60) rfl (feq c142).2 (by decide) (by decide) ?_
  refine XS.aloadN X138.here hx rfl (hb hby d40_81) rfl rfl ?_
  exact k_)
 obtain ⟨T144, X144, e144, st144⟩ := getF X138 hx hZ hown (host := "") (Or.inl (own_w hw 264 rfl)) Via.refl e138 q133_F1 (g := (mkF m 82 #[.val (.ref a1), .val (.int (0 : Int32)), .val (.int p3), .val (.int (-1 : Int32))] [(.ref a1)])) rfl rfl (hb hby d40_82)
 have p145 : Go p.tables e below _ (T144.setTop (mkF m 87 #[.val (.ref a1), .val (.int (0 : Int32)), .val (.int p3), .val (.int (-1 : Int32))] [(.ref a1), (.ref a1), (.ref tr)])) := fun t_ k_ => (gc p143 st144) t_ (by
  refine XS.aloadN X144.here hx rfl (hb hby d40_85) rfl rfl ?_
  refine XS.dup X144.here hx rfl (hb hby d40_86) rfl rfl ?_
  exact k_)
 obtain ⟨T146, X146, e146, st146⟩ := getF X144 hx hZ hown (host := "") (Or.inl (own_w hw 328 rfl)) Via.refl e144 q133_F8 (g := (mkF m 87 #[.val (.ref a1), .val (.int (0 : Int32)), .val (.int p3), .val (.int (-1 : Int32))] [(.ref a1), (.ref a1), (.ref tr)])) rfl rfl (hb hby d40_87)
 have p147 : Go p.tables e below _ (T146.setTop (mkF m 93 #[.val (.ref a1), .val (.int (0 : Int32)), .val (.int p3), .val (.int (-1 : Int32))] [(.int ((Int32.ofNat t) + (1 : Int32))), (.ref a1), (.int (Int32.ofNat t)), (.ref tr)])) := fun t_ k_ => (gc p145 st146) t_ (by
  refine XS.dupX1 X146.here hx rfl (hb hby d40_90) rfl rfl rfl ?_
  refine XS.iconst X146.here hx rfl (hb hby d40_91) ?_
  refine XS.iadd X146.here hx rfl (hb hby d40_92) rfl ?_
  exact k_)
 obtain ⟨T148, h148, X148, e148, W148, st148⟩ := putF X146 hx hZ hown (host := "") (Or.inl (own_w hw 328 rfl)) Via.refl e146 q133_F8 q133_F0 (Or.inl (own_w hw 329 rfl)) (own_w hw 90 rfl) (ty := .int) (by decide) rfl rfl (g := (mkF m 93 #[.val (.ref a1), .val (.int (0 : Int32)), .val (.int p3), .val (.int (-1 : Int32))] [(.int ((Int32.ofNat t) + (1 : Int32))), (.ref a1), (.int (Int32.ofNat t)), (.ref tr)])) rfl rfl (hb hby d40_93)
 have K149 : Keep h0 h148 [a1, tr, sz, rs, ir, w0] := K134.wr W148 (Or.inl (List.mem_of_getElem? (i := 0) rfl))
 have N148 := Fr.snoc X148 N133 GE.1
 have F148 : Fld Z h148 a1 "com/example/arcward/arcward/solver/Domains" "trailLength" "I" (.int ((Int32.ofNat t) + (1 : Int32))) := q133_F8.same W148
 have p150 : Go p.tables e below _ (T148.setTop (mkF m 97 #[.val (.ref a1), .val (.int (0 : Int32)), .val (.int p3), .val (.int (-1 : Int32))] [(.int (0 : Int32)), (.int (Int32.ofNat t)), (.ref tr)])) := fun t_ k_ => (gc p147 st148) t_ (by
  refine XS.iloadN X148.here hx rfl (hb hby d40_96) rfl ?_
  exact k_)
 have f151 := (f140.other W148 (Ne.symm ND.1))
 obtain ⟨cl152, Ar152, q152, S152, Ng152, H152, G152⟩ := id f151
 have hin152 := inb_of S152 (j := (Int32.ofNat t)) (own_i0 ht).1
 obtain ⟨T152, h152, X152, e152, W152, st152⟩ := stI X148 hx hZ e148 Ar152 (j := (Int32.ofNat t)) hin152 (g := (mkF m 97 #[.val (.ref a1), .val (.int (0 : Int32)), .val (.int p3), .val (.int (-1 : Int32))] [(.int (0 : Int32)), (.int (Int32.ofNat t)), (.ref tr)])) rfl rfl (hb hby d40_97)
 have K153 : Keep h0 h152 [a1, tr, sz, rs, ir, w0] := K149.wr W152 (Or.inl (List.mem_of_getElem? (i := 1) rfl))
 have N152 := Fr.snoc X152 N148 GE.2.1
 have V152 : Arv Z h152 tr ktr .int (96 : Int32) (tvs.set t (.int (0 : Int32))) (.int (0 : Int32)) := Arv.set Ar152 q152 S152 Ng152 H152 G152 rfl W152 t (own_i0 ht).2 (by rw [htl]; omega)
 have p154 : Go p.tables e below _ (T152.setTop (mkF m 99 #[.val (.ref a1), .val (.int (0 : Int32)), .val (.int p3), .val (.int (-1 : Int32))] [(.ref a1)])) := fun t_ k_ => (gc p150 st152) t_ (by
  refine XS.aloadN X152.here hx rfl (hb hby d40_98) rfl rfl ?_
  exact k_)
 have f155 := ((q133_F1.other W148 (Or.inr (slot_ne (Or.inl (own_w hw 265 rfl)) (Or.inl (own_w hw 329 rfl)) (by decide) (t := (.array .int)) (t' := .int) (by decide) (by decide)))).other W152 (Or.inl ND.1))
 obtain ⟨T156, X156, e156, st156⟩ := getF X152 hx hZ hown (host := "") (Or.inl (own_w hw 264 rfl)) Via.refl e152 f155 (g := (mkF m 99 #[.val (.ref a1), .val (.int (0 : Int32)), .val (.int p3), .val (.int (-1 : Int32))] [(.ref a1)])) rfl rfl (hb hby d40_99)
 have p157 : Go p.tables e below _ (T156.setTop (mkF m 104 #[.val (.ref a1), .val (.int (0 : Int32)), .val (.int p3), .val (.int (-1 : Int32))] [(.ref a1), (.ref a1), (.ref tr)])) := fun t_ k_ => (gc p154 st156) t_ (by
  refine XS.aloadN X156.here hx rfl (hb hby d40_102) rfl rfl ?_
  refine XS.dup X156.here hx rfl (hb hby d40_103) rfl rfl ?_
  exact k_)
 have f158 := (F148.other W152 (Or.inl ND.1))
 obtain ⟨T159, X159, e159, st159⟩ := getF X156 hx hZ hown (host := "") (Or.inl (own_w hw 328 rfl)) Via.refl e156 f158 (g := (mkF m 104 #[.val (.ref a1), .val (.int (0 : Int32)), .val (.int p3), .val (.int (-1 : Int32))] [(.ref a1), (.ref a1), (.ref tr)])) rfl rfl (hb hby d40_104)
 have p160 : Go p.tables e below _ (T159.setTop (mkF m 110 #[.val (.ref a1), .val (.int (0 : Int32)), .val (.int p3), .val (.int (-1 : Int32))] [(.int (((Int32.ofNat t) + (1 : Int32)) + (1 : Int32))), (.ref a1), (.int ((Int32.ofNat t) + (1 : Int32))), (.ref tr)])) := fun t_ k_ => (gc p157 st159) t_ (by
  refine XS.dupX1 X159.here hx rfl (hb hby d40_107) rfl rfl rfl ?_
  refine XS.iconst X159.here hx rfl (hb hby d40_108) ?_
  refine XS.iadd X159.here hx rfl (hb hby d40_109) rfl ?_
  exact k_)
 have f161 := ((q133_F0.wr W148).wr W152)
 obtain ⟨T162, h162, X162, e162, W162, st162⟩ := putF X159 hx hZ hown (host := "") (Or.inl (own_w hw 328 rfl)) Via.refl e159 f158 f161 (Or.inl (own_w hw 329 rfl)) (own_w hw 90 rfl) (ty := .int) (by decide) rfl rfl (g := (mkF m 110 #[.val (.ref a1), .val (.int (0 : Int32)), .val (.int p3), .val (.int (-1 : Int32))] [(.int (((Int32.ofNat t) + (1 : Int32)) + (1 : Int32))), (.ref a1), (.int ((Int32.ofNat t) + (1 : Int32))), (.ref tr)])) rfl rfl (hb hby d40_110)
 have K163 : Keep h0 h162 [a1, tr, sz, rs, ir, w0] := K153.wr W162 (Or.inl (List.mem_of_getElem? (i := 0) rfl))
 have N162 := Fr.snoc X162 N152 GE.1
 have F162 : Fld Z h162 a1 "com/example/arcward/arcward/solver/Domains" "trailLength" "I" (.int (((Int32.ofNat t) + (1 : Int32)) + (1 : Int32))) := f158.same W162
 have p164 : Go p.tables e below _ (T162.setTop (mkF m 114 #[.val (.ref a1), .val (.int (0 : Int32)), .val (.int p3), .val (.int (-1 : Int32))] [(.int p3), (.int ((Int32.ofNat t) + (1 : Int32))), (.ref tr)])) := fun t_ k_ => (gc p160 st162) t_ (by
  refine XS.iloadN X162.here hx rfl (hb hby d40_113) rfl ?_
  exact k_)
 have f165 := (V152.other W162 (Ne.symm ND.1))
 obtain ⟨cl166, Ar166, q166, S166, Ng166, H166, G166⟩ := id f165
 have hin166 := inb_of S166 (j := ((Int32.ofNat t) + (1 : Int32))) (own_i1 ht).1
 obtain ⟨T166, h166, X166, e166, W166, st166⟩ := stI X162 hx hZ e162 Ar166 (j := ((Int32.ofNat t) + (1 : Int32))) hin166 (g := (mkF m 114 #[.val (.ref a1), .val (.int (0 : Int32)), .val (.int p3), .val (.int (-1 : Int32))] [(.int p3), (.int ((Int32.ofNat t) + (1 : Int32))), (.ref tr)])) rfl rfl (hb hby d40_114)
 have K167 : Keep h0 h166 [a1, tr, sz, rs, ir, w0] := K163.wr W166 (Or.inl (List.mem_of_getElem? (i := 1) rfl))
 have N166 := Fr.snoc X166 N162 GE.2.1
 have V166 : Arv Z h166 tr ktr .int (96 : Int32) ((tvs.set t (.int (0 : Int32))).set (t + 1) (.int p3)) (.int (0 : Int32)) := Arv.set Ar166 q166 S166 Ng166 H166 G166 rfl W166 (t + 1) (own_i1 ht).2 (by simp only [List.length_set]; rw [htl]; omega)
 have p168 : Go p.tables e below _ (T166.setTop (mkF m 116 #[.val (.ref a1), .val (.int (0 : Int32)), .val (.int p3), .val (.int (-1 : Int32))] [(.ref a1)])) := fun t_ k_ => (gc p164 st166) t_ (by
  refine XS.aloadN X166.here hx rfl (hb hby d40_115) rfl rfl ?_
  exact k_)
 have f169 := ((f155.other W162 (Or.inr (slot_ne (Or.inl (own_w hw 265 rfl)) (Or.inl (own_w hw 329 rfl)) (by decide) (t := (.array .int)) (t' := .int) (by decide) (by decide)))).other W166 (Or.inl ND.1))
 obtain ⟨T170, X170, e170, st170⟩ := getF X166 hx hZ hown (host := "") (Or.inl (own_w hw 264 rfl)) Via.refl e166 f169 (g := (mkF m 116 #[.val (.ref a1), .val (.int (0 : Int32)), .val (.int p3), .val (.int (-1 : Int32))] [(.ref a1)])) rfl rfl (hb hby d40_116)
 have p171 : Go p.tables e below _ (T170.setTop (mkF m 121 #[.val (.ref a1), .val (.int (0 : Int32)), .val (.int p3), .val (.int (-1 : Int32))] [(.ref a1), (.ref a1), (.ref tr)])) := fun t_ k_ => (gc p168 st170) t_ (by
  refine XS.aloadN X170.here hx rfl (hb hby d40_119) rfl rfl ?_
  refine XS.dup X170.here hx rfl (hb hby d40_120) rfl rfl ?_
  exact k_)
 have f172 := (F162.other W166 (Or.inl ND.1))
 obtain ⟨T173, X173, e173, st173⟩ := getF X170 hx hZ hown (host := "") (Or.inl (own_w hw 328 rfl)) Via.refl e170 f172 (g := (mkF m 121 #[.val (.ref a1), .val (.int (0 : Int32)), .val (.int p3), .val (.int (-1 : Int32))] [(.ref a1), (.ref a1), (.ref tr)])) rfl rfl (hb hby d40_121)
 have p174 : Go p.tables e below _ (T173.setTop (mkF m 127 #[.val (.ref a1), .val (.int (0 : Int32)), .val (.int p3), .val (.int (-1 : Int32))] [(.int ((((Int32.ofNat t) + (1 : Int32)) + (1 : Int32)) + (1 : Int32))), (.ref a1), (.int (((Int32.ofNat t) + (1 : Int32)) + (1 : Int32))), (.ref tr)])) := fun t_ k_ => (gc p171 st173) t_ (by
  refine XS.dupX1 X173.here hx rfl (hb hby d40_124) rfl rfl rfl ?_
  refine XS.iconst X173.here hx rfl (hb hby d40_125) ?_
  refine XS.iadd X173.here hx rfl (hb hby d40_126) rfl ?_
  exact k_)
 have f175 := ((f161.wr W162).wr W166)
 obtain ⟨T176, h176, X176, e176, W176, st176⟩ := putF X173 hx hZ hown (host := "") (Or.inl (own_w hw 328 rfl)) Via.refl e173 f172 f175 (Or.inl (own_w hw 329 rfl)) (own_w hw 90 rfl) (ty := .int) (by decide) rfl rfl (g := (mkF m 127 #[.val (.ref a1), .val (.int (0 : Int32)), .val (.int p3), .val (.int (-1 : Int32))] [(.int ((((Int32.ofNat t) + (1 : Int32)) + (1 : Int32)) + (1 : Int32))), (.ref a1), (.int (((Int32.ofNat t) + (1 : Int32)) + (1 : Int32))), (.ref tr)])) rfl rfl (hb hby d40_127)
 have K177 : Keep h0 h176 [a1, tr, sz, rs, ir, w0] := K167.wr W176 (Or.inl (List.mem_of_getElem? (i := 0) rfl))
 have N176 := Fr.snoc X176 N166 GE.1
 have F176 : Fld Z h176 a1 "com/example/arcward/arcward/solver/Domains" "trailLength" "I" (.int ((((Int32.ofNat t) + (1 : Int32)) + (1 : Int32)) + (1 : Int32))) := f172.same W176
 have p178 : Go p.tables e below _ (T176.setTop (mkF m 131 #[.val (.ref a1), .val (.int (0 : Int32)), .val (.int p3), .val (.int (-1 : Int32))] [(.int (-1 : Int32)), (.int (((Int32.ofNat t) + (1 : Int32)) + (1 : Int32))), (.ref tr)])) := fun t_ k_ => (gc p174 st176) t_ (by
  refine XS.iloadN X176.here hx rfl (hb hby d40_130) rfl ?_
  exact k_)
 have f179 := (V166.other W176 (Ne.symm ND.1))
 obtain ⟨cl180, Ar180, q180, S180, Ng180, H180, G180⟩ := id f179
 have hin180 := inb_of S180 (j := (((Int32.ofNat t) + (1 : Int32)) + (1 : Int32))) (own_i2 ht).1
 obtain ⟨T180, h180, X180, e180, W180, st180⟩ := stI X176 hx hZ e176 Ar180 (j := (((Int32.ofNat t) + (1 : Int32)) + (1 : Int32))) hin180 (g := (mkF m 131 #[.val (.ref a1), .val (.int (0 : Int32)), .val (.int p3), .val (.int (-1 : Int32))] [(.int (-1 : Int32)), (.int (((Int32.ofNat t) + (1 : Int32)) + (1 : Int32))), (.ref tr)])) rfl rfl (hb hby d40_131)
 have K181 : Keep h0 h180 [a1, tr, sz, rs, ir, w0] := K177.wr W180 (Or.inl (List.mem_of_getElem? (i := 1) rfl))
 have N180 := Fr.snoc X180 N176 GE.2.1
 have V180 : Arv Z h180 tr ktr .int (96 : Int32) (((tvs.set t (.int (0 : Int32))).set (t + 1) (.int p3)).set (t + 2) (.int (-1 : Int32))) (.int (0 : Int32)) := Arv.set Ar180 q180 S180 Ng180 H180 G180 rfl W180 (t + 2) (own_i2 ht).2 (by simp only [List.length_set]; rw [htl]; omega)
 have f182 := (F176.other W180 (Or.inl ND.1))
 have f183 := ((f175.wr W176).wr W180)
 have f184 := ((f169.other W176 (Or.inr (slot_ne (Or.inl (own_w hw 265 rfl)) (Or.inl (own_w hw 329 rfl)) (by decide) (t := (.array .int)) (t' := .int) (by decide) (by decide)))).other W180 (Or.inl ND.1))
 have f185 := ((((((q133_F2.other W148 (Or.inr (slot_ne (Or.inr (own_w hw 267 rfl)) (Or.inl (own_w hw 329 rfl)) (by decide) (t := (.array .int)) (t' := .int) (by decide) (by decide)))).other W152 (Or.inl ND.1)).other W162 (Or.inr (slot_ne (Or.inr (own_w hw 267 rfl)) (Or.inl (own_w hw 329 rfl)) (by decide) (t := (.array .int)) (t' := .int) (by decide) (by decide)))).other W166 (Or.inl ND.1)).other W176 (Or.inr (slot_ne (Or.inr (own_w hw 267 rfl)) (Or.inl (own_w hw 329 rfl)) (by decide) (t := (.array .int)) (t' := .int) (by decide) (by decide)))).other W180 (Or.inl ND.1))
 have f186 := ((((((q133_F3.other W148 (Or.inr (slot_ne (Or.inr (own_w hw 277 rfl)) (Or.inl (own_w hw 329 rfl)) (by decide) (t := (.array (.array .long))) (t' := .int) (by decide) (by decide)))).other W152 (Or.inl ND.1)).other W162 (Or.inr (slot_ne (Or.inr (own_w hw 277 rfl)) (Or.inl (own_w hw 329 rfl)) (by decide) (t := (.array (.array .long))) (t' := .int) (by decide) (by decide)))).other W166 (Or.inl ND.1)).other W176 (Or.inr (slot_ne (Or.inr (own_w hw 277 rfl)) (Or.inl (own_w hw 329 rfl)) (by decide) (t := (.array (.array .long))) (t' := .int) (by decide) (by decide)))).other W180 (Or.inl ND.1))
 have f187 := ((((((q133_F4.other W148 (Or.inr (slot_ne (Or.inr (own_w hw 279 rfl)) (Or.inl (own_w hw 329 rfl)) (by decide) (t := (.array .int)) (t' := .int) (by decide) (by decide)))).other W152 (Or.inl ND.1)).other W162 (Or.inr (slot_ne (Or.inr (own_w hw 279 rfl)) (Or.inl (own_w hw 329 rfl)) (by decide) (t := (.array .int)) (t' := .int) (by decide) (by decide)))).other W166 (Or.inl ND.1)).other W176 (Or.inr (slot_ne (Or.inr (own_w hw 279 rfl)) (Or.inl (own_w hw 329 rfl)) (by decide) (t := (.array .int)) (t' := .int) (by decide) (by decide)))).other W180 (Or.inl ND.1))
 have f188 := ((((((q133_F5.other W148 (Or.inr (slot_ne (Or.inr (own_w hw 281 rfl)) (Or.inl (own_w hw 329 rfl)) (by decide) (t := (.array .int)) (t' := .int) (by decide) (by decide)))).other W152 (Or.inl ND.1)).other W162 (Or.inr (slot_ne (Or.inr (own_w hw 281 rfl)) (Or.inl (own_w hw 329 rfl)) (by decide) (t := (.array .int)) (t' := .int) (by decide) (by decide)))).other W166 (Or.inl ND.1)).other W176 (Or.inr (slot_ne (Or.inr (own_w hw 281 rfl)) (Or.inl (own_w hw 329 rfl)) (by decide) (t := (.array .int)) (t' := .int) (by decide) (by decide)))).other W180 (Or.inl ND.1))
 have f189 := ((((((q133_F6.other W148 (Or.inr (slot_ne (Or.inr (own_w hw 284 rfl)) (Or.inl (own_w hw 329 rfl)) (by decide) (t := (.array .boolean)) (t' := .int) (by decide) (by decide)))).other W152 (Or.inl ND.1)).other W162 (Or.inr (slot_ne (Or.inr (own_w hw 284 rfl)) (Or.inl (own_w hw 329 rfl)) (by decide) (t := (.array .boolean)) (t' := .int) (by decide) (by decide)))).other W166 (Or.inl ND.1)).other W176 (Or.inr (slot_ne (Or.inr (own_w hw 284 rfl)) (Or.inl (own_w hw 329 rfl)) (by decide) (t := (.array .boolean)) (t' := .int) (by decide) (by decide)))).other W180 (Or.inl ND.1))
 have f190 := ((((((q133_F7.other W148 (Or.inr (slot_ne (Or.inl (own_w hw 307 rfl)) (Or.inl (own_w hw 329 rfl)) (by decide) (t := .int) (t' := .int) (by decide) (by decide)))).other W152 (Or.inl ND.1)).other W162 (Or.inr (slot_ne (Or.inl (own_w hw 307 rfl)) (Or.inl (own_w hw 329 rfl)) (by decide) (t := .int) (t' := .int) (by decide) (by decide)))).other W166 (Or.inl ND.1)).other W176 (Or.inr (slot_ne (Or.inl (own_w hw 307 rfl)) (Or.inl (own_w hw 329 rfl)) (by decide) (t := .int) (t' := .int) (by decide) (by decide)))).other W180 (Or.inl ND.1))
 have f191 := (((((((((F10.other W110 ND.2.2.2.2.2.2.2.2.2.2.2.2.2.2.2.2.1).other W119 ND.2.2.2.2.2.2.2.2.2.2.2.2.2.1).keep q133_K (ninS (Ne.symm ND.2.1) (ninS ND.2.2.2.2.2.2.2.2.2.2.2.2.2.2.1 (ninS ND.2.2.2.2.2.2.2.2.2.2.2.2.2.2.2.1 nin0)))).other W148 (Ne.symm ND.2.1)).other W152 (Ne.symm ND.2.2.2.2.2.2.2.1)).other W162 (Ne.symm ND.2.1)).other W166 (Ne.symm ND.2.2.2.2.2.2.2.1)).other W176 (Ne.symm ND.2.1)).other W180 (Ne.symm ND.2.2.2.2.2.2.2.1))
 have f192 := (((((((V119.keep q133_K (ninS (Ne.symm ND.2.2.1) (ninS ND.2.2.2.2.2.2.2.2.2.2.2.2.2.2.2.2.2.2.1 (ninS ND.2.2.2.2.2.2.2.2.2.2.2.2.2.2.2.2.2.2.2.1 nin0)))).other W148 (Ne.symm ND.2.2.1)).other W152 (Ne.symm ND.2.2.2.2.2.2.2.2.1)).other W162 (Ne.symm ND.2.2.1)).other W166 (Ne.symm ND.2.2.2.2.2.2.2.2.1)).other W176 (Ne.symm ND.2.2.1)).other W180 (Ne.symm ND.2.2.2.2.2.2.2.2.1))
 have f193 := ((((((q133_F9.other W148 (Ne.symm ND.2.2.2.1)).other W152 (Ne.symm ND.2.2.2.2.2.2.2.2.2.1)).other W162 (Ne.symm ND.2.2.2.1)).other W166 (Ne.symm ND.2.2.2.2.2.2.2.2.2.1)).other W176 (Ne.symm ND.2.2.2.1)).other W180 (Ne.symm ND.2.2.2.2.2.2.2.2.2.1))
 have f194 := ((((((q133_F10.other W148 (Ne.symm ND.2.2.2.2.1)).other W152 (Ne.symm ND.2.2.2.2.2.2.2.2.2.2.1)).other W162 (Ne.symm ND.2.2.2.2.1)).other W166 (Ne.symm ND.2.2.2.2.2.2.2.2.2.2.1)).other W176 (Ne.symm ND.2.2.2.2.1)).other W180 (Ne.symm ND.2.2.2.2.2.2.2.2.2.2.1))
 have f195 := ((((((((V110.other W119 (Ne.symm ND.2.2.2.2.2.2.2.2.2.2.2.2.2.2.2.2.2.2.2.2.1)).keep q133_K (ninS (Ne.symm ND.2.2.2.2.2.1) (ninS (Ne.symm ND.2.2.2.2.2.2.2.2.2.2.2.2.2.2.2.2.2.2.2.2.2.2.2.1) (ninS (Ne.symm ND.2.2.2.2.2.2.2.2.2.2.2.2.2.2.2.2.2.2.2.2.2.2.2.2.2.1) nin0)))).other W148 (Ne.symm ND.2.2.2.2.2.1)).other W152 (Ne.symm ND.2.2.2.2.2.2.2.2.2.2.2.1)).other W162 (Ne.symm ND.2.2.2.2.2.1)).other W166 (Ne.symm ND.2.2.2.2.2.2.2.2.2.2.2.1)).other W176 (Ne.symm ND.2.2.2.2.2.1)).other W180 (Ne.symm ND.2.2.2.2.2.2.2.2.2.2.2.1))
 have f196 := (((((((((F15.other W110 (Ne.symm ND.2.2.2.2.2.2.2.2.2.2.2.2.2.2.2.2.2.2.2.2.2.2.2.2.2.2.2)).other W119 (Ne.symm ND.2.2.2.2.2.2.2.2.2.2.2.2.2.2.2.2.2.2.2.2.2.1)).keep q133_K (ninS (Ne.symm ND.2.2.2.2.2.2.1) (ninS (Ne.symm ND.2.2.2.2.2.2.2.2.2.2.2.2.2.2.2.2.2.2.2.2.2.2.2.2.1) (ninS (Ne.symm ND.2.2.2.2.2.2.2.2.2.2.2.2.2.2.2.2.2.2.2.2.2.2.2.2.2.2.1) nin0)))).other W148 (Ne.symm ND.2.2.2.2.2.2.1)).other W152 (Ne.symm ND.2.2.2.2.2.2.2.2.2.2.2.2.1)).other W162 (Ne.symm ND.2.2.2.2.2.2.1)).other W166 (Ne.symm ND.2.2.2.2.2.2.2.2.2.2.2.2.1)).other W176 (Ne.symm ND.2.2.2.2.2.2.1)).other W180 (Ne.symm ND.2.2.2.2.2.2.2.2.2.2.2.2.1))
 obtain ⟨fs, hr, hrun, hended, hW, hsame⟩ := X180.leave (v := none) (fun _ => rfl)
 refine ⟨_, _, (gc p178 st180) _ (X180.returnOut hx Bd.returns (hb hby d40_132) hr), hrun, hended, _, _, rfl, ?_, ⟨_, rfl⟩, hW, hsame.mono (by decide) (by decide)⟩
 show Q40_0 Z a1 tr bi sz rs ir w0 w1 rb ktr kbi ksz krs kir kw0 kw1 q0 q1 s0 s1 u0 u1 eb1 tvs t rc p3 h0 n0 _ T180.heap _
 rw [e180]
 exact ⟨(q0 &&& (((1 : Int64) <<< (p3 &&& 63).toInt64) ^^^ (-1 : Int64))), (s0 - (1 : Int32)), (((tvs.set t (.int (0 : Int32))).set (t + 1) (.int p3)).set (t + 2) (.int (-1 : Int32))), rfl, N180, K181, f183, f184, f185, f186, f187, f188, f189, f190, (by rw [own_i3]; exact f182), V180, f191, f192, f193, f194, f195, f196, (by simp only [List.length_set]; exact htl)⟩
theorem d39_0 : decode prog_50_method_18_code 0 = .ok (.aload_n 0, 1) := by decide +kernel
theorem d39_1 : decode prog_50_method_18_code 1 = .ok (.iload_n 1, 1) := by decide +kernel
theorem d39_2 : decode prog_50_method_18_code 2 = .ok (.iload_n 2, 1) := by decide +kernel
theorem d39_3 : decode prog_50_method_18_code 3 = .ok (.iconst (-1), 1) := by decide +kernel
theorem d39_4 : decode prog_50_method_18_code 4 = .ok (.invokevirtual 107, 3) := by decide +kernel
theorem d39_7 : decode prog_50_method_18_code 7 = .ok (.return_, 1) := by decide +kernel
theorem pd19 : parseMethodDescriptor "(III)V" = some ⟨[.int, .int, .int], none⟩ := by decide +kernel
theorem pn39 : plainFor (⟨"com/example/arcward/arcward/solver/Domains", "remove", "(II)V"⟩ : MethodName) = true := plainFor_of_name (by first | (simp [plainName, overriddenIn]; done) | decide +kernel)
theorem ef_rm39_0 (m : MethodId) (a1 : Addr) (tr : Addr) (bi : Addr) (sz : Addr) (rs : Addr) (ir : Addr) (w0 : Addr) (w1 : Addr) (rb : Addr) (ktr : ClassId) (kbi : ClassId) (ksz : ClassId) (krs : ClassId) (kir : ClassId) (kw0 : ClassId) (kw1 : ClassId) (q0 : Int64) (q1 : Int64) (s0 : Int32) (s1 : Int32) (u0 : Int32) (u1 : Int32) (eb1 : Int32) (tvs : List Value) (t : Nat) (rc : Int32) (p3 : Int32) : entryFrame m #[(.ref a1), (.int (0 : Int32)), (.int p3)] 3 = mkF m 0 #[.val (.ref a1), .val (.int (0 : Int32)), .val (.int p3)] [] := by first | (simp [entryFrame, mkF, argsToLocals, Value.category]; done) | rfl
def Q39_0 (Z : State) (a1 : Addr) (tr : Addr) (bi : Addr) (sz : Addr) (rs : Addr) (ir : Addr) (w0 : Addr) (w1 : Addr) (rb : Addr) (ktr : ClassId) (kbi : ClassId) (ksz : ClassId) (krs : ClassId) (kir : ClassId) (kw0 : ClassId) (kw1 : ClassId) (q0 : Int64) (q1 : Int64) (s0 : Int32) (s1 : Int32) (u0 : Int32) (u1 : Int32) (eb1 : Int32) (tvs : List Value) (t : Nat) (rc : Int32) (p3 : Int32) (h0 : Heap) (n0 : Nat) (v : Option Value) (h : Heap) (L : List Loc) : Prop := ∃ (qn : Int64) (sn : Int32) (tvn : List Value), v = none ∧ Fr n0 L ∧ (Keep h0 h [a1, tr, sz, rs, ir, w0]) ∧ (Exa Z h a1 "com/example/arcward/arcward/solver/Domains") ∧ (Fld Z h a1 "com/example/arcward/arcward/solver/Domains" "trail" "[I" (.ref tr)) ∧ (Fld Z h a1 "com/example/arcward/arcward/solver/Domains" "removedBy" "[I" (.ref rb)) ∧ (Fld Z h a1 "com/example/arcward/arcward/solver/Domains" "bits" "[[J" (.ref bi)) ∧ (Fld Z h a1 "com/example/arcward/arcward/solver/Domains" "sizes" "[I" (.ref sz)) ∧ (Fld Z h a1 "com/example/arcward/arcward/solver/Domains" "resized" "[I" (.ref rs)) ∧ (Fld Z h a1 "com/example/arcward/arcward/solver/Domains" "inResized" "[Z" (.ref ir)) ∧ (Fld Z h a1 "com/example/arcward/arcward/solver/Domains" "resizedCount" "I" (.int (rc + (1 : Int32)))) ∧ (Fld Z h a1 "com/example/arcward/arcward/solver/Domains" "trailLength" "I" (.int (Int32.ofNat (t + 3)))) ∧ (Arv Z h tr ktr .int (96 : Int32) tvn (.int (0 : Int32))) ∧ (Arv Z h bi kbi (.array .long) (2 : Int32) [(.ref w0), (.ref w1)] .null) ∧ (Arv Z h sz ksz .int (2 : Int32) [(.int sn), (.int s1)] (.int (0 : Int32))) ∧ (Arv Z h rs krs .int (2 : Int32) [(.int (own_m0 rc (0 : Int32) u0)), (.int (own_m1 rc (0 : Int32) u1))] (.int (0 : Int32))) ∧ (Arv Z h ir kir .boolean (2 : Int32) [(.int (1 : Int32)), (.int eb1)] (.int (0 : Int32))) ∧ (Arv Z h w0 kw0 .long (1 : Int32) [(.long qn)] (.long (0 : Int64))) ∧ (Arv Z h w1 kw1 .long (1 : Int32) [(.long q1)] (.long (0 : Int64))) ∧ (tvn.length = 96)
set_option maxRecDepth 65536 in
set_option maxHeartbeats 40000000 in
theorem rm39_0 (l : Launch) (Z : State) (a0 : Array Value) (hw : ∀ d ∈ tables_1, d.before a0 Z = true) (ws : List Jvm.Cond) (a1 : Addr) (tr : Addr) (bi : Addr) (sz : Addr) (rs : Addr) (ir : Addr) (w0 : Addr) (w1 : Addr) (rb : Addr) (ktr : ClassId) (kbi : ClassId) (ksz : ClassId) (krs : ClassId) (kir : ClassId) (kw0 : ClassId) (kw1 : ClassId) (q0 : Int64) (q1 : Int64) (s0 : Int32) (s1 : Int32) (u0 : Int32) (u1 : Int32) (eb1 : Int32) (tvs : List Value) (t : Nat) (rc : Int32) (p3 : Int32) (h0 : Heap) (n0 : Nat) (Z0 : n0 ≤ h0.size) (F0 : Exa Z h0 a1 "com/example/arcward/arcward/solver/Domains") (F1 : Fld Z h0 a1 "com/example/arcward/arcward/solver/Domains" "trail" "[I" (.ref tr)) (F2 : Fld Z h0 a1 "com/example/arcward/arcward/solver/Domains" "removedBy" "[I" (.ref rb)) (F3 : Fld Z h0 a1 "com/example/arcward/arcward/solver/Domains" "bits" "[[J" (.ref bi)) (F4 : Fld Z h0 a1 "com/example/arcward/arcward/solver/Domains" "sizes" "[I" (.ref sz)) (F5 : Fld Z h0 a1 "com/example/arcward/arcward/solver/Domains" "resized" "[I" (.ref rs)) (F6 : Fld Z h0 a1 "com/example/arcward/arcward/solver/Domains" "inResized" "[Z" (.ref ir)) (F7 : Fld Z h0 a1 "com/example/arcward/arcward/solver/Domains" "resizedCount" "I" (.int rc)) (F8 : Fld Z h0 a1 "com/example/arcward/arcward/solver/Domains" "trailLength" "I" (.int (Int32.ofNat t))) (F9 : Arv Z h0 tr ktr .int (96 : Int32) tvs (.int (0 : Int32))) (F10 : Arv Z h0 bi kbi (.array .long) (2 : Int32) [(.ref w0), (.ref w1)] .null) (F11 : Arv Z h0 sz ksz .int (2 : Int32) [(.int s0), (.int s1)] (.int (0 : Int32))) (F12 : Arv Z h0 rs krs .int (2 : Int32) [(.int u0), (.int u1)] (.int (0 : Int32))) (F13 : Arv Z h0 ir kir .boolean (2 : Int32) [(.int (0 : Int32)), (.int eb1)] (.int (0 : Int32))) (F14 : Arv Z h0 w0 kw0 .long (1 : Int32) [(.long q0)] (.long (0 : Int64))) (F15 : Arv Z h0 w1 kw1 .long (1 : Int32) [(.long q1)] (.long (0 : Int64))) (ND : own_ND a1 tr bi sz rs ir w0 w1) (GE : own_GE n0 a1 tr bi sz rs ir w0 w1) (hrc : rc = 0 ∨ rc = 1) (ht : t ≤ 20) (htl : tvs.length = 96) (hv : ((p3.toUInt32 >>> (6 : UInt32)).toInt32) = (0 : Int32)) :
  MetFree l (⟨"com/example/arcward/arcward/solver/Domains", "remove", "(II)V"⟩ : MethodName) (head1 (Jvm.Cond.code (⟨"com/example/arcward/arcward/solver/Domains", "remove", "(II)V"⟩ : MethodName) prog_50_method_18_code 3 none :: ws) ({ frames := 2, cells := 0, slots := 0, locals := 28 } : Room)) (fun a U => a = #[(.ref a1), (.int (0 : Int32)), (.int p3)] ∧ Z.Warmed39 U.vm ∧ U.heap = h0) (fun _ _ _ _ _ => True) (fun _ U o U' => ∃ v L, o = .returned v ∧ Q39_0 Z a1 tr bi sz rs ir w0 w1 rb ktr kbi ksz krs kir kw0 kw1 q0 q1 s0 s1 u0 u1 eb1 tvs t rc p3 h0 n0 v U'.heap L ∧ FrameEnd U o U' L ({ frames := 2, cells := 0, slots := 0, locals := 28 } : Room).cells ({ frames := 2, cells := 0, slots := 0, locals := 28 } : Room).slots) := by
 refine MetFree.of_bodySF pn39 hisR ?_
 intro p e s m args below meth c s₁ Bd hml0 hP hK
 obtain ⟨rfl, hZ, hh⟩ := hP
 have hx := Bd.exec
 have hby := Bd.bytes
 have hml : c.maxLocals = 3 := hml0
 have hown : s.vm.findClass "com/example/arcward/arcward/solver/Domains" = some m.cls := findClass_of_methodNamed Bd.named
 have hnm := (name_of_methodNamed Bd.named Bd.method).1
 have X0 : Stand p l e ({ frames := 2, cells := 0, slots := 0, locals := 28 } : Room) s m #[(.ref a1), (.int (0 : Int32)), (.int p3)] below meth c s₁ [] 0 0 := Stand.of_body Bd
 have e0 : s₁.heap = h0 := by rw [← hh, Bd.state]; rfl
 have N0 := Fr.nil n0
 have p0 : Go p.tables e below (s₁.setTop (entryFrame m #[(.ref a1), (.int (0 : Int32)), (.int p3)] 3)) (s₁.setTop (mkF m 0 #[.val (.ref a1), .val (.int (0 : Int32)), .val (.int p3)] [])) := fun t_ k_ => castTop (ef_rm39_0 m a1 tr bi sz rs ir w0 w1 rb ktr kbi ksz krs kir kw0 kw1 q0 q1 s0 s1 u0 u1 eb1 tvs t rc p3) k_
 have p101 : Go p.tables e below _ (s₁.setTop (mkF m 4 #[.val (.ref a1), .val (.int (0 : Int32)), .val (.int p3)] [(.int (-1 : Int32)), (.int p3), (.int (0 : Int32)), (.ref a1)])) := fun t_ k_ => p0 t_ (by
  refine XS.aloadN X0.here hx rfl (hb hby d39_0) rfl rfl ?_
  refine XS.iloadN X0.here hx rfl (hb hby d39_1) rfl ?_
  refine XS.iloadN X0.here hx rfl (hb hby d39_2) rfl ?_
  refine XS.iconst X0.here hx rfl (hb hby d39_3) ?_
  exact k_)
 obtain ⟨cq102, kq102, q102a, q102b, q102c⟩ := isOf hZ e0 F0
 obtain ⟨_, _, ⟨T102, L102, k102, n102⟩, -, X102, ⟨Lc102, hQ102, l102, y102, z102⟩, st102⟩ := X0.virtualBack hx (y := (⟨"com/example/arcward/arcward/solver/Domains", "remove", "(III)V"⟩ : MethodName)) (z := (⟨"com/example/arcward/arcward/solver/Domains", "remove", "(III)V"⟩ : MethodName)) hown (mvT hZ (own_w hw 318 rfl)) (mvT hZ (own_w hw 319 rfl)) (notFace_of_selects (args := #[]) (mvT hZ (own_w hw 321 rfl))) (mvT hZ (own_w hw 321 rfl)) (mvT hZ (own_w hw 320 rfl)) (by decide) (backOf (W := 0) (rm40_0 l Z a0 hw [] a1 tr bi sz rs ir w0 w1 rb ktr kbi ksz krs kir kw0 kw1 q0 q1 s0 s1 u0 u1 eb1 tvs t rc p3 h0 n0 (Nat.le_trans Z0 (Keep.refl h0 [a1, tr, sz, rs, ir, w0]).1) F0 F1 F2 F3 F4 F5 F6 F7 F8 F9 F10 F11 F12 F13 F14 F15 ND GE hrc ht htl hv) hZ (own_w hw 322 rfl) (own_w hw 91 rfl) (by decide) (by decide)) q102a q102c (g := (mkF m 4 #[.val (.ref a1), .val (.int (0 : Int32)), .val (.int p3)] [(.int (-1 : Int32)), (.int p3), (.int (0 : Int32)), (.ref a1)])) rfl (by rw [hml]; rfl) (Steps.refl _) (argsL := [(.int (0 : Int32)), (.int p3), (.int (-1 : Int32))]) (rest := []) (lenOf pd19 rfl) rfl (by show 2 * 0 + _ ≤ _; exact Nat.le_of_eq rfl) (hb hby d39_4) (fun _ _ => ⟨rfl, e0, (by decide : 0 + 0 ≤ _), (by decide : 0 + 0 ≤ _)⟩)
 dsimp only [Pt.U, Pt.locs, Pt.cells, Pt.slots] at X102 l102 y102 z102 st102 hQ102
 subst l102 y102 z102
 obtain ⟨x103, x104, x105, rfl, N102q, q102_K, q102_F0, q102_F1, q102_F2, q102_F3, q102_F4, q102_F5, q102_F6, q102_F7, q102_F8, q102_F9, q102_F10, q102_F11, q102_F12, q102_F13, q102_F14, q102_F15, q102_l⟩ := hQ102
 have N102 := Fr.app N0 N102q
 have K106 : Keep h0 T102.heap [a1, tr, sz, rs, ir, w0] := (Keep.refl h0 [a1, tr, sz, rs, ir, w0]).trans q102_K (allS (Or.inl (List.mem_of_getElem? (i := 0) rfl)) (allS (Or.inl (List.mem_of_getElem? (i := 1) rfl)) (allS (Or.inl (List.mem_of_getElem? (i := 2) rfl)) (allS (Or.inl (List.mem_of_getElem? (i := 3) rfl)) (allS (Or.inl (List.mem_of_getElem? (i := 4) rfl)) (allS (Or.inl (List.mem_of_getElem? (i := 5) rfl)) all0))))))
 obtain ⟨fs, hr, hrun, hended, hW, hsame⟩ := X102.leave (v := none) (fun _ => rfl)
 refine ⟨_, _, (gcT p101 st102) _ (X102.returnOut hx Bd.returns (hb hby d39_7) hr), hrun, hended, _, _, rfl, ?_, ⟨_, rfl⟩, hW, hsame.mono (by decide) (by decide)⟩
 show Q39_0 Z a1 tr bi sz rs ir w0 w1 rb ktr kbi ksz krs kir kw0 kw1 q0 q1 s0 s1 u0 u1 eb1 tvs t rc p3 h0 n0 _ T102.heap _
 exact ⟨x103, x104, x105, rfl, N102, K106, q102_F0, q102_F1, q102_F2, q102_F3, q102_F4, q102_F5, q102_F6, q102_F7, q102_F8, q102_F9, q102_F10, q102_F11, q102_F12, q102_F13, q102_F14, q102_F15, q102_l⟩
theorem ef_rm40_1 (m : MethodId) (a1 : Addr) (tr : Addr) (bi : Addr) (sz : Addr) (rs : Addr) (ir : Addr) (w0 : Addr) (w1 : Addr) (rb : Addr) (ktr : ClassId) (kbi : ClassId) (ksz : ClassId) (krs : ClassId) (kir : ClassId) (kw0 : ClassId) (kw1 : ClassId) (q0 : Int64) (q1 : Int64) (s0 : Int32) (s1 : Int32) (u0 : Int32) (u1 : Int32) (eb0 : Int32) (tvs : List Value) (t : Nat) (rc : Int32) (p3 : Int32) : entryFrame m #[(.ref a1), (.int (1 : Int32)), (.int p3), (.int (-1 : Int32))] 4 = mkF m 0 #[.val (.ref a1), .val (.int (1 : Int32)), .val (.int p3), .val (.int (-1 : Int32))] [] := by first | (simp [entryFrame, mkF, argsToLocals, Value.category]; done) | rfl
def Q40_1 (Z : State) (a1 : Addr) (tr : Addr) (bi : Addr) (sz : Addr) (rs : Addr) (ir : Addr) (w0 : Addr) (w1 : Addr) (rb : Addr) (ktr : ClassId) (kbi : ClassId) (ksz : ClassId) (krs : ClassId) (kir : ClassId) (kw0 : ClassId) (kw1 : ClassId) (q0 : Int64) (q1 : Int64) (s0 : Int32) (s1 : Int32) (u0 : Int32) (u1 : Int32) (eb0 : Int32) (tvs : List Value) (t : Nat) (rc : Int32) (p3 : Int32) (h0 : Heap) (n0 : Nat) (v : Option Value) (h : Heap) (L : List Loc) : Prop := ∃ (qn : Int64) (sn : Int32) (tvn : List Value), v = none ∧ Fr n0 L ∧ (Keep h0 h [a1, tr, sz, rs, ir, w1]) ∧ (Exa Z h a1 "com/example/arcward/arcward/solver/Domains") ∧ (Fld Z h a1 "com/example/arcward/arcward/solver/Domains" "trail" "[I" (.ref tr)) ∧ (Fld Z h a1 "com/example/arcward/arcward/solver/Domains" "removedBy" "[I" (.ref rb)) ∧ (Fld Z h a1 "com/example/arcward/arcward/solver/Domains" "bits" "[[J" (.ref bi)) ∧ (Fld Z h a1 "com/example/arcward/arcward/solver/Domains" "sizes" "[I" (.ref sz)) ∧ (Fld Z h a1 "com/example/arcward/arcward/solver/Domains" "resized" "[I" (.ref rs)) ∧ (Fld Z h a1 "com/example/arcward/arcward/solver/Domains" "inResized" "[Z" (.ref ir)) ∧ (Fld Z h a1 "com/example/arcward/arcward/solver/Domains" "resizedCount" "I" (.int (rc + (1 : Int32)))) ∧ (Fld Z h a1 "com/example/arcward/arcward/solver/Domains" "trailLength" "I" (.int (Int32.ofNat (t + 3)))) ∧ (Arv Z h tr ktr .int (96 : Int32) tvn (.int (0 : Int32))) ∧ (Arv Z h bi kbi (.array .long) (2 : Int32) [(.ref w0), (.ref w1)] .null) ∧ (Arv Z h sz ksz .int (2 : Int32) [(.int s0), (.int sn)] (.int (0 : Int32))) ∧ (Arv Z h rs krs .int (2 : Int32) [(.int (own_m0 rc (1 : Int32) u0)), (.int (own_m1 rc (1 : Int32) u1))] (.int (0 : Int32))) ∧ (Arv Z h ir kir .boolean (2 : Int32) [(.int eb0), (.int (1 : Int32))] (.int (0 : Int32))) ∧ (Arv Z h w0 kw0 .long (1 : Int32) [(.long q0)] (.long (0 : Int64))) ∧ (Arv Z h w1 kw1 .long (1 : Int32) [(.long qn)] (.long (0 : Int64))) ∧ (tvn.length = 96)
set_option maxRecDepth 65536 in
set_option maxHeartbeats 40000000 in
theorem rm40_1 (l : Launch) (Z : State) (a0 : Array Value) (hw : ∀ d ∈ tables_1, d.before a0 Z = true) (ws : List Jvm.Cond) (a1 : Addr) (tr : Addr) (bi : Addr) (sz : Addr) (rs : Addr) (ir : Addr) (w0 : Addr) (w1 : Addr) (rb : Addr) (ktr : ClassId) (kbi : ClassId) (ksz : ClassId) (krs : ClassId) (kir : ClassId) (kw0 : ClassId) (kw1 : ClassId) (q0 : Int64) (q1 : Int64) (s0 : Int32) (s1 : Int32) (u0 : Int32) (u1 : Int32) (eb0 : Int32) (tvs : List Value) (t : Nat) (rc : Int32) (p3 : Int32) (h0 : Heap) (n0 : Nat) (Z0 : n0 ≤ h0.size) (F0 : Exa Z h0 a1 "com/example/arcward/arcward/solver/Domains") (F1 : Fld Z h0 a1 "com/example/arcward/arcward/solver/Domains" "trail" "[I" (.ref tr)) (F2 : Fld Z h0 a1 "com/example/arcward/arcward/solver/Domains" "removedBy" "[I" (.ref rb)) (F3 : Fld Z h0 a1 "com/example/arcward/arcward/solver/Domains" "bits" "[[J" (.ref bi)) (F4 : Fld Z h0 a1 "com/example/arcward/arcward/solver/Domains" "sizes" "[I" (.ref sz)) (F5 : Fld Z h0 a1 "com/example/arcward/arcward/solver/Domains" "resized" "[I" (.ref rs)) (F6 : Fld Z h0 a1 "com/example/arcward/arcward/solver/Domains" "inResized" "[Z" (.ref ir)) (F7 : Fld Z h0 a1 "com/example/arcward/arcward/solver/Domains" "resizedCount" "I" (.int rc)) (F8 : Fld Z h0 a1 "com/example/arcward/arcward/solver/Domains" "trailLength" "I" (.int (Int32.ofNat t))) (F9 : Arv Z h0 tr ktr .int (96 : Int32) tvs (.int (0 : Int32))) (F10 : Arv Z h0 bi kbi (.array .long) (2 : Int32) [(.ref w0), (.ref w1)] .null) (F11 : Arv Z h0 sz ksz .int (2 : Int32) [(.int s0), (.int s1)] (.int (0 : Int32))) (F12 : Arv Z h0 rs krs .int (2 : Int32) [(.int u0), (.int u1)] (.int (0 : Int32))) (F13 : Arv Z h0 ir kir .boolean (2 : Int32) [(.int eb0), (.int (0 : Int32))] (.int (0 : Int32))) (F14 : Arv Z h0 w0 kw0 .long (1 : Int32) [(.long q0)] (.long (0 : Int64))) (F15 : Arv Z h0 w1 kw1 .long (1 : Int32) [(.long q1)] (.long (0 : Int64))) (ND : own_ND a1 tr bi sz rs ir w0 w1) (GE : own_GE n0 a1 tr bi sz rs ir w0 w1) (hrc : rc = 0 ∨ rc = 1) (ht : t ≤ 20) (htl : tvs.length = 96) (hv : ((p3.toUInt32 >>> (6 : UInt32)).toInt32) = (0 : Int32)) :
  MetFree l (⟨"com/example/arcward/arcward/solver/Domains", "remove", "(III)V"⟩ : MethodName) (head1 (Jvm.Cond.code (⟨"com/example/arcward/arcward/solver/Domains", "remove", "(III)V"⟩ : MethodName) prog_50_method_19_code 4 none :: ws) ({ frames := 1, cells := 0, slots := 0, locals := 13 } : Room)) (fun a U => a = #[(.ref a1), (.int (1 : Int32)), (.int p3), (.int (-1 : Int32))] ∧ Z.Warmed39 U.vm ∧ U.heap = h0) (fun _ _ _ _ _ => True) (fun _ U o U' => ∃ v L, o = .returned v ∧ Q40_1 Z a1 tr bi sz rs ir w0 w1 rb ktr kbi ksz krs kir kw0 kw1 q0 q1 s0 s1 u0 u1 eb0 tvs t rc p3 h0 n0 v U'.heap L ∧ FrameEnd U o U' L ({ frames := 1, cells := 0, slots := 0, locals := 13 } : Room).cells ({ frames := 1, cells := 0, slots := 0, locals := 13 } : Room).slots) := by
 refine MetFree.of_bodySF pn40 hisR ?_
 intro p e s m args below meth c s₁ Bd hml0 hP hK
 obtain ⟨rfl, hZ, hh⟩ := hP
 have hx := Bd.exec
 have hby := Bd.bytes
 have hml : c.maxLocals = 4 := hml0
 have hown : s.vm.findClass "com/example/arcward/arcward/solver/Domains" = some m.cls := findClass_of_methodNamed Bd.named
 have hnm := (name_of_methodNamed Bd.named Bd.method).1
 have X0 : Stand p l e ({ frames := 1, cells := 0, slots := 0, locals := 13 } : Room) s m #[(.ref a1), (.int (1 : Int32)), (.int p3), (.int (-1 : Int32))] below meth c s₁ [] 0 0 := Stand.of_body Bd
 have e0 : s₁.heap = h0 := by rw [← hh, Bd.state]; rfl
 have N0 := Fr.nil n0
 have p0 : Go p.tables e below (s₁.setTop (entryFrame m #[(.ref a1), (.int (1 : Int32)), (.int p3), (.int (-1 : Int32))] 4)) (s₁.setTop (mkF m 0 #[.val (.ref a1), .val (.int (1 : Int32)), .val (.int p3), .val (.int (-1 : Int32))] [])) := fun t_ k_ => castTop (ef_rm40_1 m a1 tr bi sz rs ir w0 w1 rb ktr kbi ksz krs kir kw0 kw1 q0 q1 s0 s1 u0 u1 eb0 tvs t rc p3) k_
 have p101 : Go p.tables e below _ (s₁.setTop (mkF m 1 #[.val (.ref a1), .val (.int (1 : Int32)), .val (.int p3), .val (.int (-1 : Int32))] [(.ref a1)])) := fun t_ k_ => p0 t_ (by
  refine XS.aloadN X0.here hx rfl (hb hby d40_0) rfl rfl ?_
  exact k_)
 obtain ⟨T102, X102, e102, st102⟩ := getF X0 hx hZ hown (host := "") (Or.inl (own_w hw 276 rfl)) Via.refl e0 F3 (g := (mkF m 1 #[.val (.ref a1), .val (.int (1 : Int32)), .val (.int p3), .val (.int (-1 : Int32))] [(.ref a1)])) rfl rfl (hb hby d40_1)
 have p103 : Go p.tables e below _ (T102.setTop (mkF m 5 #[.val (.ref a1), .val (.int (1 : Int32)), .val (.int p3), .val (.int (-1 : Int32))] [(.int (1 : Int32)), (.ref bi)])) := fun t_ k_ => (gc p101 st102) t_ (by
  refine XS.iloadN X102.here hx rfl (hb hby d40_4) rfl ?_
  exact k_)
 obtain ⟨cl104, Ar104, q104, S104, Ng104, H104, G104⟩ := id F10
 have hin104 := inb_of S104 (j := (1 : Int32)) ⟨by decide, by decide⟩
 have hat104 := H104.at (v := (.ref w1)) hin104 rfl
 have p105 : Go p.tables e below _ (T102.setTop (mkF m 10 #[.val (.ref a1), .val (.int (1 : Int32)), .val (.int p3), .val (.int (-1 : Int32))] [(.int ((p3.toUInt32 >>> (6 : UInt32)).toInt32)), (.ref w1)])) := fun t_ k_ => p103 t_ (by
  refine X102.aaload hx (j := (1 : Int32)) (v := (.ref w1)) (by rw [e102]; exact Ar104.1) (State.isArrayOf_alike hZ.alike Ar104.2.1) rfl Ar104.2.2 hin104 hat104 (g := (mkF m 5 #[.val (.ref a1), .val (.int (1 : Int32)), .val (.int p3), .val (.int (-1 : Int32))] [(.int (1 : Int32)), (.ref bi)])) rfl rfl (hb hby d40_5) _ ?_
  refine XS.iloadN X102.here hx rfl (hb hby d40_6) rfl ?_
  refine XS.bipush X102.here hx rfl (hb hby d40_7) ?_
  refine XS.iushr X102.here hx rfl (hb hby d40_9) rfl ?_
  exact k_)
 have p106 : Go p.tables e below (s₁.setTop (entryFrame m #[(.ref a1), (.int (1 : Int32)), (.int p3), (.int (-1 : Int32))] 4)) (T102.setTop (mkF m 10 #[.val (.ref a1), .val (.int (1 : Int32)), .val (.int p3), .val (.int (-1 : Int32))] [(.int (0 : Int32)), (.ref w1)])) := by have z := p105; rw [hv] at z; exact z
 have p107 : Go p.tables e below _ (T102.setTop (mkF m 11 #[.val (.ref a1), .val (.int (1 : Int32)), .val (.int p3), .val (.int (-1 : Int32))] [(.int (0 : Int32)), (.ref w1), (.int (0 : Int32)), (.ref w1)])) := fun t_ k_ => p106 t_ (by
  jvm_step X102.here [X102.here.top, hx, (hb hby d40_10), Value.category]
  show Steps p.tables e below (T102.setTop (mkF m 11 #[.val (.ref a1), .val (.int (1 : Int32)), .val (.int p3), .val (.int (-1 : Int32))] [(.int (0 : Int32)), (.ref w1), (.int (0 : Int32)), (.ref w1)])) _
  exact k_)
 obtain ⟨cl108, Ar108, q108, S108, Ng108, H108, G108⟩ := id F15
 have hin108 := inb_of S108 (j := (0 : Int32)) ⟨by decide, by decide⟩
 have hat108 := H108.at (v := (.long q1)) hin108 rfl
 have p109 : Go p.tables e below _ (T102.setTop (mkF m 20 #[.val (.ref a1), .val (.int (1 : Int32)), .val (.int p3), .val (.int (-1 : Int32))] [(.long (q1 &&& (((1 : Int64) <<< (p3 &&& 63).toInt64) ^^^ (-1 : Int64)))), (.int (0 : Int32)), (.ref w1)])) := fun t_ k_ => p107 t_ (by
  refine X102.laload hx (j := (0 : Int32)) (v := (.long q1)) (by rw [e102]; exact Ar108.1) (State.isArrayOf_alike hZ.alike Ar108.2.1) Ar108.2.2 hin108 hat108 (g := (mkF m 11 #[.val (.ref a1), .val (.int (1 : Int32)), .val (.int p3), .val (.int (-1 : Int32))] [(.int (0 : Int32)), (.ref w1), (.int (0 : Int32)), (.ref w1)])) rfl rfl (hb hby d40_11) _ ?_
  refine XS.lconst X102.here hx rfl (hb hby d40_12) ?_
  refine XS.iloadN X102.here hx rfl (hb hby d40_13) rfl ?_
  refine XS.lshl X102.here hx rfl (hb hby d40_14) rfl ?_
  refine X102.ldc2Long hx hown (mvT hZ (own_w hw 323 rfl)) (g := (mkF m 15 #[.val (.ref a1), .val (.int (1 : Int32)), .val (.int p3), .val (.int (-1 : Int32))] [(.long ((1 : Int64) <<< (p3 &&& 63).toInt64)), (.long q1), (.int (0 : Int32)), (.ref w1)])) rfl (hb hby d40_15) _ ?_
  refine XS.lxor X102.here hx rfl (hb hby d40_18) rfl ?_
  refine XS.land X102.here hx rfl (hb hby d40_19) rfl ?_
  exact k_)
 obtain ⟨cl110, Ar110, q110, S110, Ng110, H110, G110⟩ := id F15
 have hin110 := inb_of S110 (j := (0 : Int32)) ⟨by decide, by decide⟩
 obtain ⟨T110, h110, X110, e110, W110, st110⟩ := stJ X102 hx hZ e102 Ar110 (j := (0 : Int32)) hin110 (g := (mkF m 20 #[.val (.ref a1), .val (.int (1 : Int32)), .val (.int p3), .val (.int (-1 : Int32))] [(.long (q1 &&& (((1 : Int64) <<< (p3 &&& 63).toInt64) ^^^ (-1 : Int64)))), (.int (0 : Int32)), (.ref w1)])) rfl rfl (hb hby d40_20)
 have K111 : Keep h0 h110 [a1, tr, sz, rs, ir, w1] := (Keep.refl h0 [a1, tr, sz, rs, ir, w1]).wr W110 (Or.inl (List.mem_of_getElem? (i := 5) rfl))
 have N110 := Fr.snoc X110 N0 GE.2.2.2.2.2.2.2
 have V110 : Arv Z h110 w1 kw1 .long (1 : Int32) [(.long (q1 &&& (((1 : Int64) <<< (p3 &&& 63).toInt64) ^^^ (-1 : Int64))))] (.long (0 : Int64)) := Arv.set Ar110 q110 S110 Ng110 H110 G110 rfl W110 0 rfl (Nat.le_of_ble_eq_true rfl)
 have p112 : Go p.tables e below _ (T110.setTop (mkF m 22 #[.val (.ref a1), .val (.int (1 : Int32)), .val (.int p3), .val (.int (-1 : Int32))] [(.ref a1)])) := fun t_ k_ => (gc p109 st110) t_ (by
  refine XS.aloadN X110.here hx rfl (hb hby d40_21) rfl rfl ?_
  exact k_)
 have f113 := (F4.other W110 (Or.inl ND.2.2.2.2.2.2.1))
 obtain ⟨T114, X114, e114, st114⟩ := getF X110 hx hZ hown (host := "") (Or.inl (own_w hw 278 rfl)) Via.refl e110 f113 (g := (mkF m 22 #[.val (.ref a1), .val (.int (1 : Int32)), .val (.int p3), .val (.int (-1 : Int32))] [(.ref a1)])) rfl rfl (hb hby d40_22)
 have p115 : Go p.tables e below _ (T114.setTop (mkF m 27 #[.val (.ref a1), .val (.int (1 : Int32)), .val (.int p3), .val (.int (-1 : Int32))] [(.int (1 : Int32)), (.ref sz), (.int (1 : Int32)), (.ref sz)])) := fun t_ k_ => (gc p112 st114) t_ (by
  refine XS.iloadN X114.here hx rfl (hb hby d40_25) rfl ?_
  jvm_step X114.here [X114.here.top, hx, (hb hby d40_26), Value.category]
  show Steps p.tables e below (T114.setTop (mkF m 27 #[.val (.ref a1), .val (.int (1 : Int32)), .val (.int p3), .val (.int (-1 : Int32))] [(.int (1 : Int32)), (.ref sz), (.int (1 : Int32)), (.ref sz)])) _
  exact k_)
 have f117 := (F11.other W110 ND.2.2.2.2.2.2.2.2.2.2.2.2.2.2.2.2.2.2.2.2.2.1)
 obtain ⟨cl116, Ar116, q116, S116, Ng116, H116, G116⟩ := id f117
 have hin116 := inb_of S116 (j := (1 : Int32)) ⟨by decide, by decide⟩
 have hat116 := H116.at (v := (.int s1)) hin116 rfl
 have p118 : Go p.tables e below _ (T114.setTop (mkF m 30 #[.val (.ref a1), .val (.int (1 : Int32)), .val (.int p3), .val (.int (-1 : Int32))] [(.int (s1 - (1 : Int32))), (.int (1 : Int32)), (.ref sz)])) := fun t_ k_ => p115 t_ (by
  refine X114.iaload hx (j := (1 : Int32)) (v := (.int s1)) (by rw [e114]; exact Ar116.1) (State.isArrayOf_alike hZ.alike Ar116.2.1) Ar116.2.2 hin116 hat116 (g := (mkF m 27 #[.val (.ref a1), .val (.int (1 : Int32)), .val (.int p3), .val (.int (-1 : Int32))] [(.int (1 : Int32)), (.ref sz), (.int (1 : Int32)), (.ref sz)])) rfl rfl (hb hby d40_27) _ ?_
  refine XS.iconst X114.here hx rfl (hb hby d40_28) ?_
  refine XS.isub X114.here hx rfl (hb hby d40_29) rfl ?_
  exact k_)
 obtain ⟨cl119, Ar119, q119, S119, Ng119, H119, G119⟩ := id f117
 have hin119 := inb_of S119 (j := (1 : Int32)) ⟨by decide, by decide⟩
 obtain ⟨T119, h119, X119, e119, W119, st119⟩ := stI X114 hx hZ e114 Ar119 (j := (1 : Int32)) hin119 (g := (mkF m 30 #[.val (.ref a1), .val (.int (1 : Int32)), .val (.int p3), .val (.int (-1 : Int32))] [(.int (s1 - (1 : Int32))), (.int (1 : Int32)), (.ref sz)])) rfl rfl (hb hby d40_30)
 have K120 : Keep h0 h119 [a1, tr, sz, rs, ir, w1] := K111.wr W119 (Or.inl (List.mem_of_getElem? (i := 2) rfl))
 have N119 := Fr.snoc X119 N110 GE.2.2.2.1
 have V119 : Arv Z h119 sz ksz .int (2 : Int32) [(.int s0), (.int (s1 - (1 : Int32)))] (.int (0 : Int32)) := Arv.set Ar119 q119 S119 Ng119 H119 G119 rfl W119 1 rfl (Nat.le_of_ble_eq_true rfl)
 have p121 : Go p.tables e below _ (T119.setTop (mkF m 33 #[.val (.ref a1), .val (.int (1 : Int32)), .val (.int p3), .val (.int (-1 : Int32))] [(.int (1 : Int32)), (.ref a1)])) := fun t_ k_ => (gc p118 st119) t_ (by
  refine XS.aloadN X119.here hx rfl (hb hby d40_31) rfl rfl ?_
  refine XS.iloadN X119.here hx rfl (hb hby d40_32) rfl ?_
  exact k_)
 have f122 := ((F0.wr W110).wr W119)
 have f123 := ((F1.other W110 (Or.inl ND.2.2.2.2.2.2.1)).other W119 (Or.inl ND.2.2.1))
 have f124 := ((F2.other W110 (Or.inl ND.2.2.2.2.2.2.1)).other W119 (Or.inl ND.2.2.1))
 have f125 := ((F3.other W110 (Or.inl ND.2.2.2.2.2.2.1)).other W119 (Or.inl ND.2.2.1))
 have f126 := (f113.other W119 (Or.inl ND.2.2.1))
 have f127 := ((F5.other W110 (Or.inl ND.2.2.2.2.2.2.1)).other W119 (Or.inl ND.2.2.1))
 have f128 := ((F6.other W110 (Or.inl ND.2.2.2.2.2.2.1)).other W119 (Or.inl ND.2.2.1))
 have f129 := ((F7.other W110 (Or.inl ND.2.2.2.2.2.2.1)).other W119 (Or.inl ND.2.2.1))
 have f130 := ((F8.other W110 (Or.inl ND.2.2.2.2.2.2.1)).other W119 (Or.inl ND.2.2.1))
 have f131 := ((F12.other W110 ND.2.2.2.2.2.2.2.2.2.2.2.2.2.2.2.2.2.2.2.2.2.2.2.2.1).other W119 (Ne.symm ND.2.2.2.2.2.2.2.2.2.2.2.2.2.2.2.2.2.2.1))
 have f132 := ((F13.other W110 ND.2.2.2.2.2.2.2.2.2.2.2.2.2.2.2.2.2.2.2.2.2.2.2.2.2.2.1).other W119 (Ne.symm ND.2.2.2.2.2.2.2.2.2.2.2.2.2.2.2.2.2.2.2.1))
 obtain ⟨cq133, q133, q133'⟩ := f122.cell
 obtain ⟨_, _, ⟨T133, L133, k133, n133⟩, -, X133, ⟨Lc133, hQ133, l133, y133, z133⟩, st133⟩ := X119.privateBack hx (y := (⟨"com/example/arcward/arcward/solver/Domains", "markResized", "(I)V"⟩ : MethodName)) hown (mvT hZ (own_w hw 324 rfl)) (mvT hZ (own_w hw 325 rfl)) (selPriv (mvT hZ (own_w hw 304 rfl)) rfl (Cond.privateMethod_at (mvP hZ (own_w hw 326 rfl) (args := #[]))) (mvT hZ (own_w hw 325 rfl)) (by decide)) (Cond.privateMethod_at (mvP hZ (own_w hw 326 rfl) (args := #[]))) (mvT hZ (own_w hw 327 rfl)) (by decide) (backOf (W := 0) (rm41_1 l Z a0 hw [] a1 tr bi sz rs ir w0 w1 rb krs kir (Int32.ofNat t) rc u0 u1 eb0 h119 n0 (Nat.le_trans Z0 K120.1) f122 f123 f124 f125 f126 f127 f128 f129 f130 f131 f132 ND GE hrc) hZ (own_w hw 327 rfl) (own_w hw 91 rfl) (by decide) (by decide)) (g := (mkF m 33 #[.val (.ref a1), .val (.int (1 : Int32)), .val (.int p3), .val (.int (-1 : Int32))] [(.int (1 : Int32)), (.ref a1)])) rfl (by rw [hml]; rfl) (Steps.refl _) (a := a1) (by rw [e119]; exact q133) q133' (argsL := [(.int (1 : Int32))]) (rest := []) (lenOf pd18 rfl) rfl (by show 2 * 0 + _ ≤ _; exact Nat.le_of_eq rfl) (hb hby d40_33) (fun _ _ => ⟨rfl, e119, (by decide : 0 + 0 ≤ _), (by decide : 0 + 0 ≤ _)⟩)
 dsimp only [Pt.U, Pt.locs, Pt.cells, Pt.slots] at X133 l133 y133 z133 st133 hQ133
 subst l133 y133 z133
 obtain ⟨rfl, N133q, q133_K, q133_F0, q133_F1, q133_F2, q133_F3, q133_F4, q133_F5, q133_F6, q133_F7, q133_F8, q133_F9, q133_F10⟩ := hQ133
 have N133 := Fr.app N119 N133q
 have K134 : Keep h0 T133.heap [a1, tr, sz, rs, ir, w1] := K120.trans q133_K (allS (Or.inl (List.mem_of_getElem? (i := 0) rfl)) (allS (Or.inl (List.mem_of_getElem? (i := 3) rfl)) (allS (Or.inl (List.mem_of_getElem? (i := 4) rfl)) all0)))
 have p135 : Go p.tables e below _ (T133.setTop (mkF m 52 #[.val (.ref a1), .val (.int (1 : Int32)), .val (.int p3), .val (.int (-1 : Int32))] [(.ref a1)])) := fun t_ k_ => (gcT p121 st133) t_ (by
  refine XS.iloadN X133.here hx rfl (hb hby d40_36) rfl ?_
  refine XS.iconst X133.here hx rfl (hb hby d40_37) ?_
  refine XS.icmpYes X133.here hx rfl (pc0 := 38) (pc' := 51) rfl (hb hby d40_38) rfl (teq (by decide : ((-1 : Int32) = (-1 : Int32)))).1 (by decide) (by decide) ?_
  refine XS.aloadN X133.here hx rfl (hb hby d40_51) rfl rfl ?_
  exact k_)
 obtain ⟨T136, X136, e136, st136⟩ := getF X133 hx hZ hown (host := "") (Or.inl (own_w hw 328 rfl)) Via.refl rfl q133_F8 (g := (mkF m 52 #[.val (.ref a1), .val (.int (1 : Int32)), .val (.int p3), .val (.int (-1 : Int32))] [(.ref a1)])) rfl rfl (hb hby d40_52)
 have p137 : Go p.tables e below _ (T136.setTop (mkF m 56 #[.val (.ref a1), .val (.int (1 : Int32)), .val (.int p3), .val (.int (-1 : Int32))] [(.ref a1), (.int (Int32.ofNat t))])) := fun t_ k_ => (gc p135 st136) t_ (by
  refine XS.aloadN X136.here hx rfl (hb hby d40_55) rfl rfl ?_
  exact k_)
 obtain ⟨T138, X138, e138, st138⟩ := getF X136 hx hZ hown (host := "") (Or.inl (own_w hw 264 rfl)) Via.refl e136 q133_F1 (g := (mkF m 56 #[.val (.ref a1), .val (.int (1 : Int32)), .val (.int p3), .val (.int (-1 : Int32))] [(.ref a1), (.int (Int32.ofNat t))])) rfl rfl (hb hby d40_56)
 have f140 := (((F9.other W110 ND.2.2.2.2.2.2.2.2.2.2.2.2.1).other W119 ND.2.2.2.2.2.2.2.2.1).keep q133_K (ninS (Ne.symm ND.1) (ninS ND.2.2.2.2.2.2.2.2.2.1 (ninS ND.2.2.2.2.2.2.2.2.2.2.1 nin0))))
 obtain ⟨cl139, Ar139, -, S139, Ng139, -, -⟩ := id f140
 have p141 : Go p.tables e below _ (T138.setTop (mkF m 60 #[.val (.ref a1), .val (.int (1 : Int32)), .val (.int p3), .val (.int (-1 : Int32))] [(.int (96 : Int32)), (.int (Int32.ofNat t))])) := fun t_ k_ => (gc p137 st138) t_ (by
  refine X138.arraylength hx (by rw [e138]; exact Ar139.1) (State.isArrayOf_alike hZ.alike Ar139.2.1) (g := (mkF m 59 #[.val (.ref a1), .val (.int (1 : Int32)), .val (.int p3), .val (.int (-1 : Int32))] [(.ref tr), (.int (Int32.ofNat t))])) rfl rfl (hb hby d40_59) _ ?_
  rw [len_of S139 Ng139]
  show Steps p.tables e below (T138.setTop (mkF m 60 #[.val (.ref a1), .val (.int (1 : Int32)), .val (.int p3), .val (.int (-1 : Int32))] [(.int (96 : Int32)), (.int (Int32.ofNat t))])) _
  exact k_)
 have c142 : ¬ ((Int32.ofNat t) = (96 : Int32)) := own_t96 ht
 have p143 : Go p.tables e below _ (T138.setTop (mkF m 82 #[.val (.ref a1), .val (.int (1 : Int32)), .val (.int p3), .val (.int (-1 : Int32))] [(.ref a1)])) := fun t_ k_ => p141 t_ (by
  refine XS.icmpYes X138.here hx rfl (pc0 := 60) (pc' := 81) rfl (hb hby d40_60) rfl (feq c142).2 (by decide) (by decide) ?_
  refine XS.aloadN X138.here hx rfl (hb hby d40_81) rfl rfl ?_
  exact k_)
 obtain ⟨T144, X144, e144, st144⟩ := getF X138 hx hZ hown (host := "") (Or.inl (own_w hw 264 rfl)) Via.refl e138 q133_F1 (g := (mkF m 82 #[.val (.ref a1), .val (.int (1 : Int32)), .val (.int p3), .val (.int (-1 : Int32))] [(.ref a1)])) rfl rfl (hb hby d40_82)
 have p145 : Go p.tables e below _ (T144.setTop (mkF m 87 #[.val (.ref a1), .val (.int (1 : Int32)), .val (.int p3), .val (.int (-1 : Int32))] [(.ref a1), (.ref a1), (.ref tr)])) := fun t_ k_ => (gc p143 st144) t_ (by
  refine XS.aloadN X144.here hx rfl (hb hby d40_85) rfl rfl ?_
  refine XS.dup X144.here hx rfl (hb hby d40_86) rfl rfl ?_
  exact k_)
 obtain ⟨T146, X146, e146, st146⟩ := getF X144 hx hZ hown (host := "") (Or.inl (own_w hw 328 rfl)) Via.refl e144 q133_F8 (g := (mkF m 87 #[.val (.ref a1), .val (.int (1 : Int32)), .val (.int p3), .val (.int (-1 : Int32))] [(.ref a1), (.ref a1), (.ref tr)])) rfl rfl (hb hby d40_87)
 have p147 : Go p.tables e below _ (T146.setTop (mkF m 93 #[.val (.ref a1), .val (.int (1 : Int32)), .val (.int p3), .val (.int (-1 : Int32))] [(.int ((Int32.ofNat t) + (1 : Int32))), (.ref a1), (.int (Int32.ofNat t)), (.ref tr)])) := fun t_ k_ => (gc p145 st146) t_ (by
  refine XS.dupX1 X146.here hx rfl (hb hby d40_90) rfl rfl rfl ?_
  refine XS.iconst X146.here hx rfl (hb hby d40_91) ?_
  refine XS.iadd X146.here hx rfl (hb hby d40_92) rfl ?_
  exact k_)
 obtain ⟨T148, h148, X148, e148, W148, st148⟩ := putF X146 hx hZ hown (host := "") (Or.inl (own_w hw 328 rfl)) Via.refl e146 q133_F8 q133_F0 (Or.inl (own_w hw 329 rfl)) (own_w hw 90 rfl) (ty := .int) (by decide) rfl rfl (g := (mkF m 93 #[.val (.ref a1), .val (.int (1 : Int32)), .val (.int p3), .val (.int (-1 : Int32))] [(.int ((Int32.ofNat t) + (1 : Int32))), (.ref a1), (.int (Int32.ofNat t)), (.ref tr)])) rfl rfl (hb hby d40_93)
 have K149 : Keep h0 h148 [a1, tr, sz, rs, ir, w1] := K134.wr W148 (Or.inl (List.mem_of_getElem? (i := 0) rfl))
 have N148 := Fr.snoc X148 N133 GE.1
 have F148 : Fld Z h148 a1 "com/example/arcward/arcward/solver/Domains" "trailLength" "I" (.int ((Int32.ofNat t) + (1 : Int32))) := q133_F8.same W148
 have p150 : Go p.tables e below _ (T148.setTop (mkF m 97 #[.val (.ref a1), .val (.int (1 : Int32)), .val (.int p3), .val (.int (-1 : Int32))] [(.int (1 : Int32)), (.int (Int32.ofNat t)), (.ref tr)])) := fun t_ k_ => (gc p147 st148) t_ (by
  refine XS.iloadN X148.here hx rfl (hb hby d40_96) rfl ?_
  exact k_)
 have f151 := (f140.other W148 (Ne.symm ND.1))
 obtain ⟨cl152, Ar152, q152, S152, Ng152, H152, G152⟩ := id f151
 have hin152 := inb_of S152 (j := (Int32.ofNat t)) (own_i0 ht).1
 obtain ⟨T152, h152, X152, e152, W152, st152⟩ := stI X148 hx hZ e148 Ar152 (j := (Int32.ofNat t)) hin152 (g := (mkF m 97 #[.val (.ref a1), .val (.int (1 : Int32)), .val (.int p3), .val (.int (-1 : Int32))] [(.int (1 : Int32)), (.int (Int32.ofNat t)), (.ref tr)])) rfl rfl (hb hby d40_97)
 have K153 : Keep h0 h152 [a1, tr, sz, rs, ir, w1] := K149.wr W152 (Or.inl (List.mem_of_getElem? (i := 1) rfl))
 have N152 := Fr.snoc X152 N148 GE.2.1
 have V152 : Arv Z h152 tr ktr .int (96 : Int32) (tvs.set t (.int (1 : Int32))) (.int (0 : Int32)) := Arv.set Ar152 q152 S152 Ng152 H152 G152 rfl W152 t (own_i0 ht).2 (by rw [htl]; omega)
 have p154 : Go p.tables e below _ (T152.setTop (mkF m 99 #[.val (.ref a1), .val (.int (1 : Int32)), .val (.int p3), .val (.int (-1 : Int32))] [(.ref a1)])) := fun t_ k_ => (gc p150 st152) t_ (by
  refine XS.aloadN X152.here hx rfl (hb hby d40_98) rfl rfl ?_
  exact k_)
 have f155 := ((q133_F1.other W148 (Or.inr (slot_ne (Or.inl (own_w hw 265 rfl)) (Or.inl (own_w hw 329 rfl)) (by decide) (t := (.array .int)) (t' := .int) (by decide) (by decide)))).other W152 (Or.inl ND.1))
 obtain ⟨T156, X156, e156, st156⟩ := getF X152 hx hZ hown (host := "") (Or.inl (own_w hw 264 rfl)) Via.refl e152 f155 (g := (mkF m 99 #[.val (.ref a1), .val (.int (1 : Int32)), .val (.int p3), .val (.int (-1 : Int32))] [(.ref a1)])) rfl rfl (hb hby d40_99)
 have p157 : Go p.tables e below _ (T156.setTop (mkF m 104 #[.val (.ref a1), .val (.int (1 : Int32)), .val (.int p3), .val (.int (-1 : Int32))] [(.ref a1), (.ref a1), (.ref tr)])) := fun t_ k_ => (gc p154 st156) t_ (by
  refine XS.aloadN X156.here hx rfl (hb hby d40_102) rfl rfl ?_
  refine XS.dup X156.here hx rfl (hb hby d40_103) rfl rfl ?_
  exact k_)
 have f158 := (F148.other W152 (Or.inl ND.1))
 obtain ⟨T159, X159, e159, st159⟩ := getF X156 hx hZ hown (host := "") (Or.inl (own_w hw 328 rfl)) Via.refl e156 f158 (g := (mkF m 104 #[.val (.ref a1), .val (.int (1 : Int32)), .val (.int p3), .val (.int (-1 : Int32))] [(.ref a1), (.ref a1), (.ref tr)])) rfl rfl (hb hby d40_104)
 have p160 : Go p.tables e below _ (T159.setTop (mkF m 110 #[.val (.ref a1), .val (.int (1 : Int32)), .val (.int p3), .val (.int (-1 : Int32))] [(.int (((Int32.ofNat t) + (1 : Int32)) + (1 : Int32))), (.ref a1), (.int ((Int32.ofNat t) + (1 : Int32))), (.ref tr)])) := fun t_ k_ => (gc p157 st159) t_ (by
  refine XS.dupX1 X159.here hx rfl (hb hby d40_107) rfl rfl rfl ?_
  refine XS.iconst X159.here hx rfl (hb hby d40_108) ?_
  refine XS.iadd X159.here hx rfl (hb hby d40_109) rfl ?_
  exact k_)
 have f161 := ((q133_F0.wr W148).wr W152)
 obtain ⟨T162, h162, X162, e162, W162, st162⟩ := putF X159 hx hZ hown (host := "") (Or.inl (own_w hw 328 rfl)) Via.refl e159 f158 f161 (Or.inl (own_w hw 329 rfl)) (own_w hw 90 rfl) (ty := .int) (by decide) rfl rfl (g := (mkF m 110 #[.val (.ref a1), .val (.int (1 : Int32)), .val (.int p3), .val (.int (-1 : Int32))] [(.int (((Int32.ofNat t) + (1 : Int32)) + (1 : Int32))), (.ref a1), (.int ((Int32.ofNat t) + (1 : Int32))), (.ref tr)])) rfl rfl (hb hby d40_110)
 have K163 : Keep h0 h162 [a1, tr, sz, rs, ir, w1] := K153.wr W162 (Or.inl (List.mem_of_getElem? (i := 0) rfl))
 have N162 := Fr.snoc X162 N152 GE.1
 have F162 : Fld Z h162 a1 "com/example/arcward/arcward/solver/Domains" "trailLength" "I" (.int (((Int32.ofNat t) + (1 : Int32)) + (1 : Int32))) := f158.same W162
 have p164 : Go p.tables e below _ (T162.setTop (mkF m 114 #[.val (.ref a1), .val (.int (1 : Int32)), .val (.int p3), .val (.int (-1 : Int32))] [(.int p3), (.int ((Int32.ofNat t) + (1 : Int32))), (.ref tr)])) := fun t_ k_ => (gc p160 st162) t_ (by
  refine XS.iloadN X162.here hx rfl (hb hby d40_113) rfl ?_
  exact k_)
 have f165 := (V152.other W162 (Ne.symm ND.1))
 obtain ⟨cl166, Ar166, q166, S166, Ng166, H166, G166⟩ := id f165
 have hin166 := inb_of S166 (j := ((Int32.ofNat t) + (1 : Int32))) (own_i1 ht).1
 obtain ⟨T166, h166, X166, e166, W166, st166⟩ := stI X162 hx hZ e162 Ar166 (j := ((Int32.ofNat t) + (1 : Int32))) hin166 (g := (mkF m 114 #[.val (.ref a1), .val (.int (1 : Int32)), .val (.int p3), .val (.int (-1 : Int32))] [(.int p3), (.int ((Int32.ofNat t) + (1 : Int32))), (.ref tr)])) rfl rfl (hb hby d40_114)
 have K167 : Keep h0 h166 [a1, tr, sz, rs, ir, w1] := K163.wr W166 (Or.inl (List.mem_of_getElem? (i := 1) rfl))
 have N166 := Fr.snoc X166 N162 GE.2.1
 have V166 : Arv Z h166 tr ktr .int (96 : Int32) ((tvs.set t (.int (1 : Int32))).set (t + 1) (.int p3)) (.int (0 : Int32)) := Arv.set Ar166 q166 S166 Ng166 H166 G166 rfl W166 (t + 1) (own_i1 ht).2 (by simp only [List.length_set]; rw [htl]; omega)
 have p168 : Go p.tables e below _ (T166.setTop (mkF m 116 #[.val (.ref a1), .val (.int (1 : Int32)), .val (.int p3), .val (.int (-1 : Int32))] [(.ref a1)])) := fun t_ k_ => (gc p164 st166) t_ (by
  refine XS.aloadN X166.here hx rfl (hb hby d40_115) rfl rfl ?_
  exact k_)
 have f169 := ((f155.other W162 (Or.inr (slot_ne (Or.inl (own_w hw 265 rfl)) (Or.inl (own_w hw 329 rfl)) (by decide) (t := (.array .int)) (t' := .int) (by decide) (by decide)))).other W166 (Or.inl ND.1))
 obtain ⟨T170, X170, e170, st170⟩ := getF X166 hx hZ hown (host := "") (Or.inl (own_w hw 264 rfl)) Via.refl e166 f169 (g := (mkF m 116 #[.val (.ref a1), .val (.int (1 : Int32)), .val (.int p3), .val (.int (-1 : Int32))] [(.ref a1)])) rfl rfl (hb hby d40_116)
 have p171 : Go p.tables e below _ (T170.setTop (mkF m 121 #[.val (.ref a1), .val (.int (1 : Int32)), .val (.int p3), .val (.int (-1 : Int32))] [(.ref a1), (.ref a1), (.ref tr)])) := fun t_ k_ => (gc p168 st170) t_ (by
  refine XS.aloadN X170.here hx rfl (hb hby d40_119) rfl rfl ?_
  refine XS.dup X170.here hx rfl (hb hby d40_120) rfl rfl ?_
  exact k_)
 have f172 := (F162.other W166 (Or.inl ND.1))
 obtain ⟨T173, X173, e173, st173⟩ := getF X170 hx hZ hown (host := "") (Or.inl (own_w hw 328 rfl)) Via.refl e170 f172 (g := (mkF m 121 #[.val (.ref a1), .val (.int (1 : Int32)), .val (.int p3), .val (.int (-1 : Int32))] [(.ref a1), (.ref a1), (.ref tr)])) rfl rfl (hb hby d40_121)
 have p174 : Go p.tables e below _ (T173.setTop (mkF m 127 #[.val (.ref a1), .val (.int (1 : Int32)), .val (.int p3), .val (.int (-1 : Int32))] [(.int ((((Int32.ofNat t) + (1 : Int32)) + (1 : Int32)) + (1 : Int32))), (.ref a1), (.int (((Int32.ofNat t) + (1 : Int32)) + (1 : Int32))), (.ref tr)])) := fun t_ k_ => (gc p171 st173) t_ (by
  refine XS.dupX1 X173.here hx rfl (hb hby d40_124) rfl rfl rfl ?_
  refine XS.iconst X173.here hx rfl (hb hby d40_125) ?_
  refine XS.iadd X173.here hx rfl (hb hby d40_126) rfl ?_
  exact k_)
 have f175 := ((f161.wr W162).wr W166)
 obtain ⟨T176, h176, X176, e176, W176, st176⟩ := putF X173 hx hZ hown (host := "") (Or.inl (own_w hw 328 rfl)) Via.refl e173 f172 f175 (Or.inl (own_w hw 329 rfl)) (own_w hw 90 rfl) (ty := .int) (by decide) rfl rfl (g := (mkF m 127 #[.val (.ref a1), .val (.int (1 : Int32)), .val (.int p3), .val (.int (-1 : Int32))] [(.int ((((Int32.ofNat t) + (1 : Int32)) + (1 : Int32)) + (1 : Int32))), (.ref a1), (.int (((Int32.ofNat t) + (1 : Int32)) + (1 : Int32))), (.ref tr)])) rfl rfl (hb hby d40_127)
 have K177 : Keep h0 h176 [a1, tr, sz, rs, ir, w1] := K167.wr W176 (Or.inl (List.mem_of_getElem? (i := 0) rfl))
 have N176 := Fr.snoc X176 N166 GE.1
 have F176 : Fld Z h176 a1 "com/example/arcward/arcward/solver/Domains" "trailLength" "I" (.int ((((Int32.ofNat t) + (1 : Int32)) + (1 : Int32)) + (1 : Int32))) := f172.same W176
 have p178 : Go p.tables e below _ (T176.setTop (mkF m 131 #[.val (.ref a1), .val (.int (1 : Int32)), .val (.int p3), .val (.int (-1 : Int32))] [(.int (-1 : Int32)), (.int (((Int32.ofNat t) + (1 : Int32)) + (1 : Int32))), (.ref tr)])) := fun t_ k_ => (gc p174 st176) t_ (by
  refine XS.iloadN X176.here hx rfl (hb hby d40_130) rfl ?_
  exact k_)
 have f179 := (V166.other W176 (Ne.symm ND.1))
 obtain ⟨cl180, Ar180, q180, S180, Ng180, H180, G180⟩ := id f179
 have hin180 := inb_of S180 (j := (((Int32.ofNat t) + (1 : Int32)) + (1 : Int32))) (own_i2 ht).1
 obtain ⟨T180, h180, X180, e180, W180, st180⟩ := stI X176 hx hZ e176 Ar180 (j := (((Int32.ofNat t) + (1 : Int32)) + (1 : Int32))) hin180 (g := (mkF m 131 #[.val (.ref a1), .val (.int (1 : Int32)), .val (.int p3), .val (.int (-1 : Int32))] [(.int (-1 : Int32)), (.int (((Int32.ofNat t) + (1 : Int32)) + (1 : Int32))), (.ref tr)])) rfl rfl (hb hby d40_131)
 have K181 : Keep h0 h180 [a1, tr, sz, rs, ir, w1] := K177.wr W180 (Or.inl (List.mem_of_getElem? (i := 1) rfl))
 have N180 := Fr.snoc X180 N176 GE.2.1
 have V180 : Arv Z h180 tr ktr .int (96 : Int32) (((tvs.set t (.int (1 : Int32))).set (t + 1) (.int p3)).set (t + 2) (.int (-1 : Int32))) (.int (0 : Int32)) := Arv.set Ar180 q180 S180 Ng180 H180 G180 rfl W180 (t + 2) (own_i2 ht).2 (by simp only [List.length_set]; rw [htl]; omega)
 have f182 := (F176.other W180 (Or.inl ND.1))
 have f183 := ((f175.wr W176).wr W180)
 have f184 := ((f169.other W176 (Or.inr (slot_ne (Or.inl (own_w hw 265 rfl)) (Or.inl (own_w hw 329 rfl)) (by decide) (t := (.array .int)) (t' := .int) (by decide) (by decide)))).other W180 (Or.inl ND.1))
 have f185 := ((((((q133_F2.other W148 (Or.inr (slot_ne (Or.inr (own_w hw 267 rfl)) (Or.inl (own_w hw 329 rfl)) (by decide) (t := (.array .int)) (t' := .int) (by decide) (by decide)))).other W152 (Or.inl ND.1)).other W162 (Or.inr (slot_ne (Or.inr (own_w hw 267 rfl)) (Or.inl (own_w hw 329 rfl)) (by decide) (t := (.array .int)) (t' := .int) (by decide) (by decide)))).other W166 (Or.inl ND.1)).other W176 (Or.inr (slot_ne (Or.inr (own_w hw 267 rfl)) (Or.inl (own_w hw 329 rfl)) (by decide) (t := (.array .int)) (t' := .int) (by decide) (by decide)))).other W180 (Or.inl ND.1))
 have f186 := ((((((q133_F3.other W148 (Or.inr (slot_ne (Or.inr (own_w hw 277 rfl)) (Or.inl (own_w hw 329 rfl)) (by decide) (t := (.array (.array .long))) (t' := .int) (by decide) (by decide)))).other W152 (Or.inl ND.1)).other W162 (Or.inr (slot_ne (Or.inr (own_w hw 277 rfl)) (Or.inl (own_w hw 329 rfl)) (by decide) (t := (.array (.array .long))) (t' := .int) (by decide) (by decide)))).other W166 (Or.inl ND.1)).other W176 (Or.inr (slot_ne (Or.inr (own_w hw 277 rfl)) (Or.inl (own_w hw 329 rfl)) (by decide) (t := (.array (.array .long))) (t' := .int) (by decide) (by decide)))).other W180 (Or.inl ND.1))
 have f187 := ((((((q133_F4.other W148 (Or.inr (slot_ne (Or.inr (own_w hw 279 rfl)) (Or.inl (own_w hw 329 rfl)) (by decide) (t := (.array .int)) (t' := .int) (by decide) (by decide)))).other W152 (Or.inl ND.1)).other W162 (Or.inr (slot_ne (Or.inr (own_w hw 279 rfl)) (Or.inl (own_w hw 329 rfl)) (by decide) (t := (.array .int)) (t' := .int) (by decide) (by decide)))).other W166 (Or.inl ND.1)).other W176 (Or.inr (slot_ne (Or.inr (own_w hw 279 rfl)) (Or.inl (own_w hw 329 rfl)) (by decide) (t := (.array .int)) (t' := .int) (by decide) (by decide)))).other W180 (Or.inl ND.1))
 have f188 := ((((((q133_F5.other W148 (Or.inr (slot_ne (Or.inr (own_w hw 281 rfl)) (Or.inl (own_w hw 329 rfl)) (by decide) (t := (.array .int)) (t' := .int) (by decide) (by decide)))).other W152 (Or.inl ND.1)).other W162 (Or.inr (slot_ne (Or.inr (own_w hw 281 rfl)) (Or.inl (own_w hw 329 rfl)) (by decide) (t := (.array .int)) (t' := .int) (by decide) (by decide)))).other W166 (Or.inl ND.1)).other W176 (Or.inr (slot_ne (Or.inr (own_w hw 281 rfl)) (Or.inl (own_w hw 329 rfl)) (by decide) (t := (.array .int)) (t' := .int) (by decide) (by decide)))).other W180 (Or.inl ND.1))
 have f189 := ((((((q133_F6.other W148 (Or.inr (slot_ne (Or.inr (own_w hw 284 rfl)) (Or.inl (own_w hw 329 rfl)) (by decide) (t := (.array .boolean)) (t' := .int) (by decide) (by decide)))).other W152 (Or.inl ND.1)).other W162 (Or.inr (slot_ne (Or.inr (own_w hw 284 rfl)) (Or.inl (own_w hw 329 rfl)) (by decide) (t := (.array .boolean)) (t' := .int) (by decide) (by decide)))).other W166 (Or.inl ND.1)).other W176 (Or.inr (slot_ne (Or.inr (own_w hw 284 rfl)) (Or.inl (own_w hw 329 rfl)) (by decide) (t := (.array .boolean)) (t' := .int) (by decide) (by decide)))).other W180 (Or.inl ND.1))
 have f190 := ((((((q133_F7.other W148 (Or.inr (slot_ne (Or.inl (own_w hw 307 rfl)) (Or.inl (own_w hw 329 rfl)) (by decide) (t := .int) (t' := .int) (by decide) (by decide)))).other W152 (Or.inl ND.1)).other W162 (Or.inr (slot_ne (Or.inl (own_w hw 307 rfl)) (Or.inl (own_w hw 329 rfl)) (by decide) (t := .int) (t' := .int) (by decide) (by decide)))).other W166 (Or.inl ND.1)).other W176 (Or.inr (slot_ne (Or.inl (own_w hw 307 rfl)) (Or.inl (own_w hw 329 rfl)) (by decide) (t := .int) (t' := .int) (by decide) (by decide)))).other W180 (Or.inl ND.1))
 have f191 := (((((((((F10.other W110 ND.2.2.2.2.2.2.2.2.2.2.2.2.2.2.2.2.2.1).other W119 ND.2.2.2.2.2.2.2.2.2.2.2.2.2.1).keep q133_K (ninS (Ne.symm ND.2.1) (ninS ND.2.2.2.2.2.2.2.2.2.2.2.2.2.2.1 (ninS ND.2.2.2.2.2.2.2.2.2.2.2.2.2.2.2.1 nin0)))).other W148 (Ne.symm ND.2.1)).other W152 (Ne.symm ND.2.2.2.2.2.2.2.1)).other W162 (Ne.symm ND.2.1)).other W166 (Ne.symm ND.2.2.2.2.2.2.2.1)).other W176 (Ne.symm ND.2.1)).other W180 (Ne.symm ND.2.2.2.2.2.2.2.1))
 have f192 := (((((((V119.keep q133_K (ninS (Ne.symm ND.2.2.1) (ninS ND.2.2.2.2.2.2.2.2.2.2.2.2.2.2.2.2.2.2.1 (ninS ND.2.2.2.2.2.2.2.2.2.2.2.2.2.2.2.2.2.2.2.1 nin0)))).other W148 (Ne.symm ND.2.2.1)).other W152 (Ne.symm ND.2.2.2.2.2.2.2.2.1)).other W162 (Ne.symm ND.2.2.1)).other W166 (Ne.symm ND.2.2.2.2.2.2.2.2.1)).other W176 (Ne.symm ND.2.2.1)).other W180 (Ne.symm ND.2.2.2.2.2.2.2.2.1))
 have f193 := ((((((q133_F9.other W148 (Ne.symm ND.2.2.2.1)).other W152 (Ne.symm ND.2.2.2.2.2.2.2.2.2.1)).other W162 (Ne.symm ND.2.2.2.1)).other W166 (Ne.symm ND.2.2.2.2.2.2.2.2.2.1)).other W176 (Ne.symm ND.2.2.2.1)).other W180 (Ne.symm ND.2.2.2.2.2.2.2.2.2.1))
 have f194 := ((((((q133_F10.other W148 (Ne.symm ND.2.2.2.2.1)).other W152 (Ne.symm ND.2.2.2.2.2.2.2.2.2.2.1)).other W162 (Ne.symm ND.2.2.2.2.1)).other W166 (Ne.symm ND.2.2.2.2.2.2.2.2.2.2.1)).other W176 (Ne.symm ND.2.2.2.2.1)).other W180 (Ne.symm ND.2.2.2.2.2.2.2.2.2.2.1))
 have f195 := (((((((((F14.other W110 ND.2.2.2.2.2.2.2.2.2.2.2.2.2.2.2.2.2.2.2.2.2.2.2.2.2.2.2).other W119 (Ne.symm ND.2.2.2.2.2.2.2.2.2.2.2.2.2.2.2.2.2.2.2.2.1)).keep q133_K (ninS (Ne.symm ND.2.2.2.2.2.1) (ninS (Ne.symm ND.2.2.2.2.2.2.2.2.2.2.2.2.2.2.2.2.2.2.2.2.2.2.2.1) (ninS (Ne.symm ND.2.2.2.2.2.2.2.2.2.2.2.2.2.2.2.2.2.2.2.2.2.2.2.2.2.1) nin0)))).other W148 (Ne.symm ND.2.2.2.2.2.1)).other W152 (Ne.symm ND.2.2.2.2.2.2.2.2.2.2.2.1)).other W162 (Ne.symm ND.2.2.2.2.2.1)).other W166 (Ne.symm ND.2.2.2.2.2.2.2.2.2.2.2.1)).other W176 (Ne.symm ND.2.2.2.2.2.1)).other W180 (Ne.symm ND.2.2.2.2.2.2.2.2.2.2.2.1))
 have f196 := ((((((((V110.other W119 (Ne.symm ND.2.2.2.2.2.2.2.2.2.2.2.2.2.2.2.2.2.2.2.2.2.1)).keep q133_K (ninS (Ne.symm ND.2.2.2.2.2.2.1) (ninS (Ne.symm ND.2.2.2.2.2.2.2.2.2.2.2.2.2.2.2.2.2.2.2.2.2.2.2.2.1) (ninS (Ne.symm ND.2.2.2.2.2.2.2.2.2.2.2.2.2.2.2.2.2.2.2.2.2.2.2.2.2.2.1) nin0)))).other W148 (Ne.symm ND.2.2.2.2.2.2.1)).other W152 (Ne.symm ND.2.2.2.2.2.2.2.2.2.2.2.2.1)).other W162 (Ne.symm ND.2.2.2.2.2.2.1)).other W166 (Ne.symm ND.2.2.2.2.2.2.2.2.2.2.2.2.1)).other W176 (Ne.symm ND.2.2.2.2.2.2.1)).other W180 (Ne.symm ND.2.2.2.2.2.2.2.2.2.2.2.2.1))
 obtain ⟨fs, hr, hrun, hended, hW, hsame⟩ := X180.leave (v := none) (fun _ => rfl)
 refine ⟨_, _, (gc p178 st180) _ (X180.returnOut hx Bd.returns (hb hby d40_132) hr), hrun, hended, _, _, rfl, ?_, ⟨_, rfl⟩, hW, hsame.mono (by decide) (by decide)⟩
 show Q40_1 Z a1 tr bi sz rs ir w0 w1 rb ktr kbi ksz krs kir kw0 kw1 q0 q1 s0 s1 u0 u1 eb0 tvs t rc p3 h0 n0 _ T180.heap _
 rw [e180]
 exact ⟨(q1 &&& (((1 : Int64) <<< (p3 &&& 63).toInt64) ^^^ (-1 : Int64))), (s1 - (1 : Int32)), (((tvs.set t (.int (1 : Int32))).set (t + 1) (.int p3)).set (t + 2) (.int (-1 : Int32))), rfl, N180, K181, f183, f184, f185, f186, f187, f188, f189, f190, (by rw [own_i3]; exact f182), V180, f191, f192, f193, f194, f195, f196, (by simp only [List.length_set]; exact htl)⟩
theorem ef_rm39_1 (m : MethodId) (a1 : Addr) (tr : Addr) (bi : Addr) (sz : Addr) (rs : Addr) (ir : Addr) (w0 : Addr) (w1 : Addr) (rb : Addr) (ktr : ClassId) (kbi : ClassId) (ksz : ClassId) (krs : ClassId) (kir : ClassId) (kw0 : ClassId) (kw1 : ClassId) (q0 : Int64) (q1 : Int64) (s0 : Int32) (s1 : Int32) (u0 : Int32) (u1 : Int32) (eb0 : Int32) (tvs : List Value) (t : Nat) (rc : Int32) (p3 : Int32) : entryFrame m #[(.ref a1), (.int (1 : Int32)), (.int p3)] 3 = mkF m 0 #[.val (.ref a1), .val (.int (1 : Int32)), .val (.int p3)] [] := by first | (simp [entryFrame, mkF, argsToLocals, Value.category]; done) | rfl
def Q39_1 (Z : State) (a1 : Addr) (tr : Addr) (bi : Addr) (sz : Addr) (rs : Addr) (ir : Addr) (w0 : Addr) (w1 : Addr) (rb : Addr) (ktr : ClassId) (kbi : ClassId) (ksz : ClassId) (krs : ClassId) (kir : ClassId) (kw0 : ClassId) (kw1 : ClassId) (q0 : Int64) (q1 : Int64) (s0 : Int32) (s1 : Int32) (u0 : Int32) (u1 : Int32) (eb0 : Int32) (tvs : List Value) (t : Nat) (rc : Int32) (p3 : Int32) (h0 : Heap) (n0 : Nat) (v : Option Value) (h : Heap) (L : List Loc) : Prop := ∃ (qn : Int64) (sn : Int32) (tvn : List Value), v = none ∧ Fr n0 L ∧ (Keep h0 h [a1, tr, sz, rs, ir, w1]) ∧ (Exa Z h a1 "com/example/arcward/arcward/solver/Domains") ∧ (Fld Z h a1 "com/example/arcward/arcward/solver/Domains" "trail" "[I" (.ref tr)) ∧ (Fld Z h a1 "com/example/arcward/arcward/solver/Domains" "removedBy" "[I" (.ref rb)) ∧ (Fld Z h a1 "com/example/arcward/arcward/solver/Domains" "bits" "[[J" (.ref bi)) ∧ (Fld Z h a1 "com/example/arcward/arcward/solver/Domains" "sizes" "[I" (.ref sz)) ∧ (Fld Z h a1 "com/example/arcward/arcward/solver/Domains" "resized" "[I" (.ref rs)) ∧ (Fld Z h a1 "com/example/arcward/arcward/solver/Domains" "inResized" "[Z" (.ref ir)) ∧ (Fld Z h a1 "com/example/arcward/arcward/solver/Domains" "resizedCount" "I" (.int (rc + (1 : Int32)))) ∧ (Fld Z h a1 "com/example/arcward/arcward/solver/Domains" "trailLength" "I" (.int (Int32.ofNat (t + 3)))) ∧ (Arv Z h tr ktr .int (96 : Int32) tvn (.int (0 : Int32))) ∧ (Arv Z h bi kbi (.array .long) (2 : Int32) [(.ref w0), (.ref w1)] .null) ∧ (Arv Z h sz ksz .int (2 : Int32) [(.int s0), (.int sn)] (.int (0 : Int32))) ∧ (Arv Z h rs krs .int (2 : Int32) [(.int (own_m0 rc (1 : Int32) u0)), (.int (own_m1 rc (1 : Int32) u1))] (.int (0 : Int32))) ∧ (Arv Z h ir kir .boolean (2 : Int32) [(.int eb0), (.int (1 : Int32))] (.int (0 : Int32))) ∧ (Arv Z h w0 kw0 .long (1 : Int32) [(.long q0)] (.long (0 : Int64))) ∧ (Arv Z h w1 kw1 .long (1 : Int32) [(.long qn)] (.long (0 : Int64))) ∧ (tvn.length = 96)
set_option maxRecDepth 65536 in
set_option maxHeartbeats 40000000 in
theorem rm39_1 (l : Launch) (Z : State) (a0 : Array Value) (hw : ∀ d ∈ tables_1, d.before a0 Z = true) (ws : List Jvm.Cond) (a1 : Addr) (tr : Addr) (bi : Addr) (sz : Addr) (rs : Addr) (ir : Addr) (w0 : Addr) (w1 : Addr) (rb : Addr) (ktr : ClassId) (kbi : ClassId) (ksz : ClassId) (krs : ClassId) (kir : ClassId) (kw0 : ClassId) (kw1 : ClassId) (q0 : Int64) (q1 : Int64) (s0 : Int32) (s1 : Int32) (u0 : Int32) (u1 : Int32) (eb0 : Int32) (tvs : List Value) (t : Nat) (rc : Int32) (p3 : Int32) (h0 : Heap) (n0 : Nat) (Z0 : n0 ≤ h0.size) (F0 : Exa Z h0 a1 "com/example/arcward/arcward/solver/Domains") (F1 : Fld Z h0 a1 "com/example/arcward/arcward/solver/Domains" "trail" "[I" (.ref tr)) (F2 : Fld Z h0 a1 "com/example/arcward/arcward/solver/Domains" "removedBy" "[I" (.ref rb)) (F3 : Fld Z h0 a1 "com/example/arcward/arcward/solver/Domains" "bits" "[[J" (.ref bi)) (F4 : Fld Z h0 a1 "com/example/arcward/arcward/solver/Domains" "sizes" "[I" (.ref sz)) (F5 : Fld Z h0 a1 "com/example/arcward/arcward/solver/Domains" "resized" "[I" (.ref rs)) (F6 : Fld Z h0 a1 "com/example/arcward/arcward/solver/Domains" "inResized" "[Z" (.ref ir)) (F7 : Fld Z h0 a1 "com/example/arcward/arcward/solver/Domains" "resizedCount" "I" (.int rc)) (F8 : Fld Z h0 a1 "com/example/arcward/arcward/solver/Domains" "trailLength" "I" (.int (Int32.ofNat t))) (F9 : Arv Z h0 tr ktr .int (96 : Int32) tvs (.int (0 : Int32))) (F10 : Arv Z h0 bi kbi (.array .long) (2 : Int32) [(.ref w0), (.ref w1)] .null) (F11 : Arv Z h0 sz ksz .int (2 : Int32) [(.int s0), (.int s1)] (.int (0 : Int32))) (F12 : Arv Z h0 rs krs .int (2 : Int32) [(.int u0), (.int u1)] (.int (0 : Int32))) (F13 : Arv Z h0 ir kir .boolean (2 : Int32) [(.int eb0), (.int (0 : Int32))] (.int (0 : Int32))) (F14 : Arv Z h0 w0 kw0 .long (1 : Int32) [(.long q0)] (.long (0 : Int64))) (F15 : Arv Z h0 w1 kw1 .long (1 : Int32) [(.long q1)] (.long (0 : Int64))) (ND : own_ND a1 tr bi sz rs ir w0 w1) (GE : own_GE n0 a1 tr bi sz rs ir w0 w1) (hrc : rc = 0 ∨ rc = 1) (ht : t ≤ 20) (htl : tvs.length = 96) (hv : ((p3.toUInt32 >>> (6 : UInt32)).toInt32) = (0 : Int32)) :
  MetFree l (⟨"com/example/arcward/arcward/solver/Domains", "remove", "(II)V"⟩ : MethodName) (head1 (Jvm.Cond.code (⟨"com/example/arcward/arcward/solver/Domains", "remove", "(II)V"⟩ : MethodName) prog_50_method_18_code 3 none :: ws) ({ frames := 2, cells := 0, slots := 0, locals := 28 } : Room)) (fun a U => a = #[(.ref a1), (.int (1 : Int32)), (.int p3)] ∧ Z.Warmed39 U.vm ∧ U.heap = h0) (fun _ _ _ _ _ => True) (fun _ U o U' => ∃ v L, o = .returned v ∧ Q39_1 Z a1 tr bi sz rs ir w0 w1 rb ktr kbi ksz krs kir kw0 kw1 q0 q1 s0 s1 u0 u1 eb0 tvs t rc p3 h0 n0 v U'.heap L ∧ FrameEnd U o U' L ({ frames := 2, cells := 0, slots := 0, locals := 28 } : Room).cells ({ frames := 2, cells := 0, slots := 0, locals := 28 } : Room).slots) := by
 refine MetFree.of_bodySF pn39 hisR ?_
 intro p e s m args below meth c s₁ Bd hml0 hP hK
 obtain ⟨rfl, hZ, hh⟩ := hP
 have hx := Bd.exec
 have hby := Bd.bytes
 have hml : c.maxLocals = 3 := hml0
 have hown : s.vm.findClass "com/example/arcward/arcward/solver/Domains" = some m.cls := findClass_of_methodNamed Bd.named
 have hnm := (name_of_methodNamed Bd.named Bd.method).1
 have X0 : Stand p l e ({ frames := 2, cells := 0, slots := 0, locals := 28 } : Room) s m #[(.ref a1), (.int (1 : Int32)), (.int p3)] below meth c s₁ [] 0 0 := Stand.of_body Bd
 have e0 : s₁.heap = h0 := by rw [← hh, Bd.state]; rfl
 have N0 := Fr.nil n0
 have p0 : Go p.tables e below (s₁.setTop (entryFrame m #[(.ref a1), (.int (1 : Int32)), (.int p3)] 3)) (s₁.setTop (mkF m 0 #[.val (.ref a1), .val (.int (1 : Int32)), .val (.int p3)] [])) := fun t_ k_ => castTop (ef_rm39_1 m a1 tr bi sz rs ir w0 w1 rb ktr kbi ksz krs kir kw0 kw1 q0 q1 s0 s1 u0 u1 eb0 tvs t rc p3) k_
 have p101 : Go p.tables e below _ (s₁.setTop (mkF m 4 #[.val (.ref a1), .val (.int (1 : Int32)), .val (.int p3)] [(.int (-1 : Int32)), (.int p3), (.int (1 : Int32)), (.ref a1)])) := fun t_ k_ => p0 t_ (by
  refine XS.aloadN X0.here hx rfl (hb hby d39_0) rfl rfl ?_
  refine XS.iloadN X0.here hx rfl (hb hby d39_1) rfl ?_
  refine XS.iloadN X0.here hx rfl (hb hby d39_2) rfl ?_
  refine XS.iconst X0.here hx rfl (hb hby d39_3) ?_
  exact k_)
 obtain ⟨cq102, kq102, q102a, q102b, q102c⟩ := isOf hZ e0 F0
 obtain ⟨_, _, ⟨T102, L102, k102, n102⟩, -, X102, ⟨Lc102, hQ102, l102, y102, z102⟩, st102⟩ := X0.virtualBack hx (y := (⟨"com/example/arcward/arcward/solver/Domains", "remove", "(III)V"⟩ : MethodName)) (z := (⟨"com/example/arcward/arcward/solver/Domains", "remove", "(III)V"⟩ : MethodName)) hown (mvT hZ (own_w hw 318 rfl)) (mvT hZ (own_w hw 319 rfl)) (notFace_of_selects (args := #[]) (mvT hZ (own_w hw 321 rfl))) (mvT hZ (own_w hw 321 rfl)) (mvT hZ (own_w hw 320 rfl)) (by decide) (backOf (W := 0) (rm40_1 l Z a0 hw [] a1 tr bi sz rs ir w0 w1 rb ktr kbi ksz krs kir kw0 kw1 q0 q1 s0 s1 u0 u1 eb0 tvs t rc p3 h0 n0 (Nat.le_trans Z0 (Keep.refl h0 [a1, tr, sz, rs, ir, w1]).1) F0 F1 F2 F3 F4 F5 F6 F7 F8 F9 F10 F11 F12 F13 F14 F15 ND GE hrc ht htl hv) hZ (own_w hw 322 rfl) (own_w hw 91 rfl) (by decide) (by decide)) q102a q102c (g := (mkF m 4 #[.val (.ref a1), .val (.int (1 : Int32)), .val (.int p3)] [(.int (-1 : Int32)), (.int p3), (.int (1 : Int32)), (.ref a1)])) rfl (by rw [hml]; rfl) (Steps.refl _) (argsL := [(.int (1 : Int32)), (.int p3), (.int (-1 : Int32))]) (rest := []) (lenOf pd19 rfl) rfl (by show 2 * 0 + _ ≤ _; exact Nat.le_of_eq rfl) (hb hby d39_4) (fun _ _ => ⟨rfl, e0, (by decide : 0 + 0 ≤ _), (by decide : 0 + 0 ≤ _)⟩)
 dsimp only [Pt.U, Pt.locs, Pt.cells, Pt.slots] at X102 l102 y102 z102 st102 hQ102
 subst l102 y102 z102
 obtain ⟨x103, x104, x105, rfl, N102q, q102_K, q102_F0, q102_F1, q102_F2, q102_F3, q102_F4, q102_F5, q102_F6, q102_F7, q102_F8, q102_F9, q102_F10, q102_F11, q102_F12, q102_F13, q102_F14, q102_F15, q102_l⟩ := hQ102
 have N102 := Fr.app N0 N102q
 have K106 : Keep h0 T102.heap [a1, tr, sz, rs, ir, w1] := (Keep.refl h0 [a1, tr, sz, rs, ir, w1]).trans q102_K (allS (Or.inl (List.mem_of_getElem? (i := 0) rfl)) (allS (Or.inl (List.mem_of_getElem? (i := 1) rfl)) (allS (Or.inl (List.mem_of_getElem? (i := 2) rfl)) (allS (Or.inl (List.mem_of_getElem? (i := 3) rfl)) (allS (Or.inl (List.mem_of_getElem? (i := 4) rfl)) (allS (Or.inl (List.mem_of_getElem? (i := 5) rfl)) all0))))))
 obtain ⟨fs, hr, hrun, hended, hW, hsame⟩ := X102.leave (v := none) (fun _ => rfl)
 refine ⟨_, _, (gcT p101 st102) _ (X102.returnOut hx Bd.returns (hb hby d39_7) hr), hrun, hended, _, _, rfl, ?_, ⟨_, rfl⟩, hW, hsame.mono (by decide) (by decide)⟩
 show Q39_1 Z a1 tr bi sz rs ir w0 w1 rb ktr kbi ksz krs kir kw0 kw1 q0 q1 s0 s1 u0 u1 eb0 tvs t rc p3 h0 n0 _ T102.heap _
 exact ⟨x103, x104, x105, rfl, N102, K106, q102_F0, q102_F1, q102_F2, q102_F3, q102_F4, q102_F5, q102_F6, q102_F7, q102_F8, q102_F9, q102_F10, q102_F11, q102_F12, q102_F13, q102_F14, q102_F15, q102_l⟩
theorem d36_0 : decode method_3_code 0 = .ok (.iload_n 1, 1) := by decide +kernel
theorem d36_1 : decode method_3_code 1 = .ok (.iconst 1, 1) := by decide +kernel
theorem d36_2 : decode method_3_code 2 = .ok (.iand, 1) := by decide +kernel
theorem d36_3 : decode method_3_code 3 = .ok (.ifCond .eq 7, 3) := by decide +kernel
theorem d36_6 : decode method_3_code 6 = .ok (.iconst 1, 1) := by decide +kernel
theorem d36_7 : decode method_3_code 7 = .ok (.goto 4, 3) := by decide +kernel
theorem d36_10 : decode method_3_code 10 = .ok (.iconst 0, 1) := by decide +kernel
theorem d36_11 : decode method_3_code 11 = .ok (.istore_n 3, 1) := by decide +kernel
theorem d36_12 : decode method_3_code 12 = .ok (.iload_n 1, 1) := by decide +kernel
theorem d36_13 : decode method_3_code 13 = .ok (.iconst 2, 1) := by decide +kernel
theorem d36_14 : decode method_3_code 14 = .ok (.iand, 1) := by decide +kernel
theorem d36_15 : decode method_3_code 15 = .ok (.ifCond .eq 7, 3) := by decide +kernel
theorem d36_18 : decode method_3_code 18 = .ok (.iconst 1, 1) := by decide +kernel
theorem d36_19 : decode method_3_code 19 = .ok (.goto 4, 3) := by decide +kernel
theorem d36_22 : decode method_3_code 22 = .ok (.iconst 0, 1) := by decide +kernel
theorem d36_23 : decode method_3_code 23 = .ok (.istore 4, 2) := by decide +kernel
theorem d36_25 : decode method_3_code 25 = .ok (.iload_n 1, 1) := by decide +kernel
theorem d36_26 : decode method_3_code 26 = .ok (.iconst 4, 1) := by decide +kernel
theorem d36_27 : decode method_3_code 27 = .ok (.iand, 1) := by decide +kernel
theorem d36_28 : decode method_3_code 28 = .ok (.ifCond .eq 7, 3) := by decide +kernel
theorem d36_31 : decode method_3_code 31 = .ok (.iconst 1, 1) := by decide +kernel
theorem d36_32 : decode method_3_code 32 = .ok (.goto 4, 3) := by decide +kernel
theorem d36_35 : decode method_3_code 35 = .ok (.iconst 0, 1) := by decide +kernel
theorem d36_36 : decode method_3_code 36 = .ok (.istore 5, 2) := by decide +kernel
theorem d36_38 : decode method_3_code 38 = .ok (.iload 5, 2) := by decide +kernel
theorem d36_40 : decode method_3_code 40 = .ok (.ifCond .eq 27, 3) := by decide +kernel
theorem d36_43 : decode method_3_code 43 = .ok (.iload 4, 2) := by decide +kernel
theorem d36_45 : decode method_3_code 45 = .ok (.ifCond .eq 9, 3) := by decide +kernel
theorem d36_48 : decode method_3_code 48 = .ok (.aload_n 0, 1) := by decide +kernel
theorem d36_49 : decode method_3_code 49 = .ok (.iconst 1, 1) := by decide +kernel
theorem d36_50 : decode method_3_code 50 = .ok (.iload_n 2, 1) := by decide +kernel
theorem d36_51 : decode method_3_code 51 = .ok (.invokevirtual 50, 3) := by decide +kernel
theorem d36_54 : decode method_3_code 54 = .ok (.iload_n 3, 1) := by decide +kernel
theorem d36_55 : decode method_3_code 55 = .ok (.ifCond .eq 33, 3) := by decide +kernel
theorem d36_58 : decode method_3_code 58 = .ok (.aload_n 0, 1) := by decide +kernel
theorem d36_59 : decode method_3_code 59 = .ok (.iconst 0, 1) := by decide +kernel
theorem d36_60 : decode method_3_code 60 = .ok (.iload_n 2, 1) := by decide +kernel
theorem d36_61 : decode method_3_code 61 = .ok (.invokevirtual 50, 3) := by decide +kernel
theorem d36_64 : decode method_3_code 64 = .ok (.goto 24, 3) := by decide +kernel
theorem d36_67 : decode method_3_code 67 = .ok (.iload_n 3, 1) := by decide +kernel
theorem d36_68 : decode method_3_code 68 = .ok (.ifCond .eq 9, 3) := by decide +kernel
theorem d36_71 : decode method_3_code 71 = .ok (.aload_n 0, 1) := by decide +kernel
theorem d36_72 : decode method_3_code 72 = .ok (.iconst 0, 1) := by decide +kernel
theorem d36_73 : decode method_3_code 73 = .ok (.iload_n 2, 1) := by decide +kernel
theorem d36_74 : decode method_3_code 74 = .ok (.invokevirtual 50, 3) := by decide +kernel
theorem d36_77 : decode method_3_code 77 = .ok (.iload 4, 2) := by decide +kernel
theorem d36_79 : decode method_3_code 79 = .ok (.ifCond .eq 9, 3) := by decide +kernel
theorem d36_82 : decode method_3_code 82 = .ok (.aload_n 0, 1) := by decide +kernel
theorem d36_83 : decode method_3_code 83 = .ok (.iconst 1, 1) := by decide +kernel
theorem d36_84 : decode method_3_code 84 = .ok (.iload_n 2, 1) := by decide +kernel
theorem d36_85 : decode method_3_code 85 = .ok (.invokevirtual 50, 3) := by decide +kernel
theorem d36_88 : decode method_3_code 88 = .ok (.return_, 1) := by decide +kernel
theorem pd20 : parseMethodDescriptor "(II)V" = some ⟨[.int, .int], none⟩ := by decide +kernel
theorem pn36 : plainFor (⟨"com/example/arcward/arcward/solver/DomainsClearResizedPinLaw", "removals", "(Lcom/example/arcward/arcward/solver/Domains;II)V"⟩ : MethodName) = true := plainFor_of_name (by first | (simp [plainName, overriddenIn]; done) | decide +kernel)
theorem ef_rm36 (m : MethodId) (a1 : Addr) (tr : Addr) (bi : Addr) (sz : Addr) (rs : Addr) (ir : Addr) (w0 : Addr) (w1 : Addr) (rb : Addr) (ktr : ClassId) (kbi : ClassId) (ksz : ClassId) (krs : ClassId) (kir : ClassId) (kw0 : ClassId) (kw1 : ClassId) (q0 : Int64) (q1 : Int64) (s0 : Int32) (s1 : Int32) (u0 : Int32) (u1 : Int32) (tvs : List Value) (t : Nat) (p2 : Int32) (p3 : Int32) : entryFrame m #[(.ref a1), (.int p2), (.int p3)] 6 = mkF m 0 #[.val (.ref a1), .val (.int p2), .val (.int p3), .unset, .unset, .unset] [] := by first | (simp [entryFrame, mkF, argsToLocals, Value.category]; done) | rfl
def Q36 (Z : State) (a1 : Addr) (tr : Addr) (bi : Addr) (sz : Addr) (rs : Addr) (ir : Addr) (w0 : Addr) (w1 : Addr) (rb : Addr) (ktr : ClassId) (kbi : ClassId) (ksz : ClassId) (krs : ClassId) (kir : ClassId) (kw0 : ClassId) (kw1 : ClassId) (q0 : Int64) (q1 : Int64) (s0 : Int32) (s1 : Int32) (u0 : Int32) (u1 : Int32) (tvs : List Value) (t : Nat) (p2 : Int32) (p3 : Int32) (h0 : Heap) (n0 : Nat) (v : Option Value) (h : Heap) (L : List Loc) : Prop := ∃ (qa : Int64) (qb : Int64) (sa : Int32) (sb : Int32) (tvn : List Value) (tn : Nat), v = none ∧ Fr n0 L ∧ (Keep h0 h [a1, tr, sz, rs, ir, w0, w1]) ∧ (Exa Z h a1 "com/example/arcward/arcward/solver/Domains") ∧ (Fld Z h a1 "com/example/arcward/arcward/solver/Domains" "trail" "[I" (.ref tr)) ∧ (Fld Z h a1 "com/example/arcward/arcward/solver/Domains" "removedBy" "[I" (.ref rb)) ∧ (Fld Z h a1 "com/example/arcward/arcward/solver/Domains" "bits" "[[J" (.ref bi)) ∧ (Fld Z h a1 "com/example/arcward/arcward/solver/Domains" "sizes" "[I" (.ref sz)) ∧ (Fld Z h a1 "com/example/arcward/arcward/solver/Domains" "resized" "[I" (.ref rs)) ∧ (Fld Z h a1 "com/example/arcward/arcward/solver/Domains" "inResized" "[Z" (.ref ir)) ∧ (Fld Z h a1 "com/example/arcward/arcward/solver/Domains" "resizedCount" "I" (.int (own_rc p2))) ∧ (Fld Z h a1 "com/example/arcward/arcward/solver/Domains" "trailLength" "I" (.int (Int32.ofNat tn))) ∧ (Arv Z h tr ktr .int (96 : Int32) tvn (.int (0 : Int32))) ∧ (Arv Z h bi kbi (.array .long) (2 : Int32) [(.ref w0), (.ref w1)] .null) ∧ (Arv Z h sz ksz .int (2 : Int32) [(.int sa), (.int sb)] (.int (0 : Int32))) ∧ (Arv Z h rs krs .int (2 : Int32) [(.int (own_ra p2 u0)), (.int (own_rb p2 u1))] (.int (0 : Int32))) ∧ (Arv Z h ir kir .boolean (2 : Int32) [(.int (own_e0 p2)), (.int (own_e1 p2))] (.int (0 : Int32))) ∧ (Arv Z h w0 kw0 .long (1 : Int32) [(.long qa)] (.long (0 : Int64))) ∧ (Arv Z h w1 kw1 .long (1 : Int32) [(.long qb)] (.long (0 : Int64))) ∧ (tvn.length = 96) ∧ (tn ≤ t + 6)
set_option maxRecDepth 65536 in
set_option maxHeartbeats 40000000 in
theorem rm36 (l : Launch) (Z : State) (a0 : Array Value) (hw : ∀ d ∈ tables_1, d.before a0 Z = true) (ws : List Jvm.Cond) (a1 : Addr) (tr : Addr) (bi : Addr) (sz : Addr) (rs : Addr) (ir : Addr) (w0 : Addr) (w1 : Addr) (rb : Addr) (ktr : ClassId) (kbi : ClassId) (ksz : ClassId) (krs : ClassId) (kir : ClassId) (kw0 : ClassId) (kw1 : ClassId) (q0 : Int64) (q1 : Int64) (s0 : Int32) (s1 : Int32) (u0 : Int32) (u1 : Int32) (tvs : List Value) (t : Nat) (p2 : Int32) (p3 : Int32) (h0 : Heap) (n0 : Nat) (Z0 : n0 ≤ h0.size) (F0 : Exa Z h0 a1 "com/example/arcward/arcward/solver/Domains") (F1 : Fld Z h0 a1 "com/example/arcward/arcward/solver/Domains" "trail" "[I" (.ref tr)) (F2 : Fld Z h0 a1 "com/example/arcward/arcward/solver/Domains" "removedBy" "[I" (.ref rb)) (F3 : Fld Z h0 a1 "com/example/arcward/arcward/solver/Domains" "bits" "[[J" (.ref bi)) (F4 : Fld Z h0 a1 "com/example/arcward/arcward/solver/Domains" "sizes" "[I" (.ref sz)) (F5 : Fld Z h0 a1 "com/example/arcward/arcward/solver/Domains" "resized" "[I" (.ref rs)) (F6 : Fld Z h0 a1 "com/example/arcward/arcward/solver/Domains" "inResized" "[Z" (.ref ir)) (F7 : Fld Z h0 a1 "com/example/arcward/arcward/solver/Domains" "resizedCount" "I" (.int (0 : Int32))) (F8 : Fld Z h0 a1 "com/example/arcward/arcward/solver/Domains" "trailLength" "I" (.int (Int32.ofNat t))) (F9 : Arv Z h0 tr ktr .int (96 : Int32) tvs (.int (0 : Int32))) (F10 : Arv Z h0 bi kbi (.array .long) (2 : Int32) [(.ref w0), (.ref w1)] .null) (F11 : Arv Z h0 sz ksz .int (2 : Int32) [(.int s0), (.int s1)] (.int (0 : Int32))) (F12 : Arv Z h0 rs krs .int (2 : Int32) [(.int u0), (.int u1)] (.int (0 : Int32))) (F13 : Arv Z h0 ir kir .boolean (2 : Int32) [(.int (0 : Int32)), (.int (0 : Int32))] (.int (0 : Int32))) (F14 : Arv Z h0 w0 kw0 .long (1 : Int32) [(.long q0)] (.long (0 : Int64))) (F15 : Arv Z h0 w1 kw1 .long (1 : Int32) [(.long q1)] (.long (0 : Int64))) (ND : own_ND a1 tr bi sz rs ir w0 w1) (GE : own_GE n0 a1 tr bi sz rs ir w0 w1) (ht : t ≤ 10) (htl : tvs.length = 96) (hv : ((p3.toUInt32 >>> (6 : UInt32)).toInt32) = (0 : Int32)) :
  MetFree l (⟨"com/example/arcward/arcward/solver/DomainsClearResizedPinLaw", "removals", "(Lcom/example/arcward/arcward/solver/Domains;II)V"⟩ : MethodName) (head1 (Jvm.Cond.code (⟨"com/example/arcward/arcward/solver/DomainsClearResizedPinLaw", "removals", "(Lcom/example/arcward/arcward/solver/Domains;II)V"⟩ : MethodName) method_3_code 6 none :: ws) ({ frames := 3, cells := 0, slots := 0, locals := 42 } : Room)) (fun a U => a = #[(.ref a1), (.int p2), (.int p3)] ∧ Z.Warmed39 U.vm ∧ U.heap = h0) (fun _ _ _ _ _ => True) (fun _ U o U' => ∃ v L, o = .returned v ∧ Q36 Z a1 tr bi sz rs ir w0 w1 rb ktr kbi ksz krs kir kw0 kw1 q0 q1 s0 s1 u0 u1 tvs t p2 p3 h0 n0 v U'.heap L ∧ FrameEnd U o U' L ({ frames := 3, cells := 0, slots := 0, locals := 42 } : Room).cells ({ frames := 3, cells := 0, slots := 0, locals := 42 } : Room).slots) := by
 refine MetFree.of_bodySF pn36 hisR ?_
 intro p e s m args below meth c s₁ Bd hml0 hP hK
 obtain ⟨rfl, hZ, hh⟩ := hP
 have hx := Bd.exec
 have hby := Bd.bytes
 have hml : c.maxLocals = 6 := hml0
 have hown : s.vm.findClass "com/example/arcward/arcward/solver/DomainsClearResizedPinLaw" = some m.cls := findClass_of_methodNamed Bd.named
 have hnm := (name_of_methodNamed Bd.named Bd.method).1
 have X0 : Stand p l e ({ frames := 3, cells := 0, slots := 0, locals := 42 } : Room) s m #[(.ref a1), (.int p2), (.int p3)] below meth c s₁ [] 0 0 := Stand.of_body Bd
 have e0 : s₁.heap = h0 := by rw [← hh, Bd.state]; rfl
 have N0 := Fr.nil n0
 have p0 : Go p.tables e below (s₁.setTop (entryFrame m #[(.ref a1), (.int p2), (.int p3)] 6)) (s₁.setTop (mkF m 0 #[.val (.ref a1), .val (.int p2), .val (.int p3), .unset, .unset, .unset] [])) := fun t_ k_ => castTop (ef_rm36 m a1 tr bi sz rs ir w0 w1 rb ktr kbi ksz krs kir kw0 kw1 q0 q1 s0 s1 u0 u1 tvs t p2 p3) k_
 have p101 : Go p.tables e below _ (s₁.setTop (mkF m 3 #[.val (.ref a1), .val (.int p2), .val (.int p3), .unset, .unset, .unset] [(.int (p2 &&& (1 : Int32)))])) := fun t_ k_ => p0 t_ (by
  refine XS.iloadN X0.here hx rfl (hb hby d36_0) rfl ?_
  refine XS.iconst X0.here hx rfl (hb hby d36_1) ?_
  refine XS.iand X0.here hx rfl (hb hby d36_2) rfl ?_
  exact k_)
 by_cases c102 : (p2 &&& (1 : Int32)) = (0 : Int32)
 ·have p103 : Go p.tables e below _ (s₁.setTop (mkF m 10 #[.val (.ref a1), .val (.int p2), .val (.int p3), .unset, .unset, .unset] [])) := fun t_ k_ => p101 t_ (by
   refine XS.ifYes X0.here hx rfl (pc0 := 3) (pc' := 10) rfl (hb hby d36_3) rfl ((if0 _ _).trans (teq c102).1) (by decide) (by decide) ?_
   exact k_)
  have p104 : Go p.tables e below _ (s₁.setTop (mkF m 15 #[.val (.ref a1), .val (.int p2), .val (.int p3), .val (.int (0 : Int32)), .unset, .unset] [(.int (p2 &&& (2 : Int32)))])) := fun t_ k_ => p103 t_ (by
   refine XS.iconst X0.here hx rfl (hb hby d36_10) ?_
   refine XS.istoreN X0.here hx rfl (hb hby d36_11) rfl (l' := #[.val (.ref a1), .val (.int p2), .val (.int p3), .val (.int (0 : Int32)), .unset, .unset]) rfl ?_
   refine XS.iloadN X0.here hx rfl (hb hby d36_12) rfl ?_
   refine XS.iconst X0.here hx rfl (hb hby d36_13) ?_
   refine XS.iand X0.here hx rfl (hb hby d36_14) rfl ?_
   exact k_)
  by_cases c105 : (p2 &&& (2 : Int32)) = (0 : Int32)
  ·have p106 : Go p.tables e below _ (s₁.setTop (mkF m 22 #[.val (.ref a1), .val (.int p2), .val (.int p3), .val (.int (0 : Int32)), .unset, .unset] [])) := fun t_ k_ => p104 t_ (by
    refine XS.ifYes X0.here hx rfl (pc0 := 15) (pc' := 22) rfl (hb hby d36_15) rfl ((if0 _ _).trans (teq c105).1) (by decide) (by decide) ?_
    exact k_)
   have p107 : Go p.tables e below _ (s₁.setTop (mkF m 28 #[.val (.ref a1), .val (.int p2), .val (.int p3), .val (.int (0 : Int32)), .val (.int (0 : Int32)), .unset] [(.int (p2 &&& (4 : Int32)))])) := fun t_ k_ => p106 t_ (by
    refine XS.iconst X0.here hx rfl (hb hby d36_22) ?_
    refine XS.istore X0.here hx rfl (hb hby d36_23) rfl (l' := #[.val (.ref a1), .val (.int p2), .val (.int p3), .val (.int (0 : Int32)), .val (.int (0 : Int32)), .unset]) rfl ?_
    refine XS.iloadN X0.here hx rfl (hb hby d36_25) rfl ?_
    refine XS.iconst X0.here hx rfl (hb hby d36_26) ?_
    refine XS.iand X0.here hx rfl (hb hby d36_27) rfl ?_
    exact k_)
   by_cases c108 : (p2 &&& (4 : Int32)) = (0 : Int32)
   ·have p109 : Go p.tables e below _ (s₁.setTop (mkF m 35 #[.val (.ref a1), .val (.int p2), .val (.int p3), .val (.int (0 : Int32)), .val (.int (0 : Int32)), .unset] [])) := fun t_ k_ => p107 t_ (by
     refine XS.ifYes X0.here hx rfl (pc0 := 28) (pc' := 35) rfl (hb hby d36_28) rfl ((if0 _ _).trans (teq c108).1) (by decide) (by decide) ?_
     exact k_)
    have p110 : Go p.tables e below _ (s₁.setTop (mkF m 88 #[.val (.ref a1), .val (.int p2), .val (.int p3), .val (.int (0 : Int32)), .val (.int (0 : Int32)), .val (.int (0 : Int32))] [])) := fun t_ k_ => p109 t_ (by
     refine XS.iconst X0.here hx rfl (hb hby d36_35) ?_
     refine XS.istore X0.here hx rfl (hb hby d36_36) rfl (l' := #[.val (.ref a1), .val (.int p2), .val (.int p3), .val (.int (0 : Int32)), .val (.int (0 : Int32)), .val (.int (0 : Int32))]) rfl ?_
     refine XS.iload X0.here hx rfl (hb hby d36_38) rfl ?_
     refine XS.ifYes X0.here hx rfl (pc0 := 40) (pc' := 67) rfl (hb hby d36_40) rfl ((if0 _ _).trans (teq (by decide : ((0 : Int32) = (0 : Int32)))).1) (by decide) (by decide) ?_
     refine XS.iloadN X0.here hx rfl (hb hby d36_67) rfl ?_
     refine XS.ifYes X0.here hx rfl (pc0 := 68) (pc' := 77) rfl (hb hby d36_68) rfl ((if0 _ _).trans (teq (by decide : ((0 : Int32) = (0 : Int32)))).1) (by decide) (by decide) ?_
     refine XS.iload X0.here hx rfl (hb hby d36_77) rfl ?_
     refine XS.ifYes X0.here hx rfl (pc0 := 79) (pc' := 88) rfl (hb hby d36_79) rfl ((if0 _ _).trans (teq (by decide : ((0 : Int32) = (0 : Int32)))).1) (by decide) (by decide) ?_
     exact k_)
    have hq111 : own_rc p2 = (0 : Int32) := by simp [own_rc, own_m0, own_m1, c102, c105, c108]
    have hq112 : own_ra p2 u0 = u0 := by simp [own_ra, own_m0, own_m1, c102, c105, c108]
    have hq113 : own_rb p2 u1 = u1 := by simp [own_rb, own_m0, own_m1, c102, c105, c108]
    have hq114 : own_e0 p2 = (0 : Int32) := by simp [own_e0, own_m0, own_m1, c102, c105, c108]
    have hq115 : own_e1 p2 = (0 : Int32) := by simp [own_e1, own_m0, own_m1, c102, c105, c108]
    obtain ⟨fs, hr, hrun, hended, hW, hsame⟩ := X0.leave (v := none) (fun _ => rfl)
    refine ⟨_, _, p110 _ (X0.returnOut hx Bd.returns (hb hby d36_88) hr), hrun, hended, _, _, rfl, ?_, ⟨_, rfl⟩, hW, hsame.mono (by decide) (by decide)⟩
    show Q36 Z a1 tr bi sz rs ir w0 w1 rb ktr kbi ksz krs kir kw0 kw1 q0 q1 s0 s1 u0 u1 tvs t p2 p3 h0 n0 _ s₁.heap _
    rw [e0]
    exact ⟨q0, q1, s0, s1, tvs, t, rfl, N0, (Keep.refl h0 [a1, tr, sz, rs, ir, w0, w1]), F0, F1, F2, F3, F4, F5, F6, (by rw [hq111]; exact F7), F8, F9, F10, F11, (by rw [hq112, hq113]; exact F12), (by rw [hq114, hq115]; exact F13), F14, F15, htl, by omega⟩
   ·have p116 : Go p.tables e below _ (s₁.setTop (mkF m 31 #[.val (.ref a1), .val (.int p2), .val (.int p3), .val (.int (0 : Int32)), .val (.int (0 : Int32)), .unset] [])) := fun t_ k_ => p107 t_ (by
     refine XS.ifNo X0.here hx rfl (hb hby d36_28) rfl ((if0 _ _).trans (feq c108).1) ?_
     exact k_)
    have p117 : Go p.tables e below _ (s₁.setTop (mkF m 88 #[.val (.ref a1), .val (.int p2), .val (.int p3), .val (.int (0 : Int32)), .val (.int (0 : Int32)), .val (.int (1 : Int32))] [])) := fun t_ k_ => p116 t_ (by
     refine XS.iconst X0.here hx rfl (hb hby d36_31) ?_
     refine XS.goto X0.here hx rfl (pc0 := 32) (pc' := 36) rfl (hb hby d36_32) (by decide) (by decide) ?_
     refine XS.istore X0.here hx rfl (hb hby d36_36) rfl (l' := #[.val (.ref a1), .val (.int p2), .val (.int p3), .val (.int (0 : Int32)), .val (.int (0 : Int32)), .val (.int (1 : Int32))]) rfl ?_
     refine XS.iload X0.here hx rfl (hb hby d36_38) rfl ?_
     refine XS.ifNo X0.here hx rfl (hb hby d36_40) rfl ((if0 _ _).trans (feq (by decide : ¬ ((1 : Int32) = (0 : Int32)))).1) ?_
     refine XS.iload X0.here hx rfl (hb hby d36_43) rfl ?_
     refine XS.ifYes X0.here hx rfl (pc0 := 45) (pc' := 54) rfl (hb hby d36_45) rfl ((if0 _ _).trans (teq (by decide : ((0 : Int32) = (0 : Int32)))).1) (by decide) (by decide) ?_
     refine XS.iloadN X0.here hx rfl (hb hby d36_54) rfl ?_
     refine XS.ifYes X0.here hx rfl (pc0 := 55) (pc' := 88) rfl (hb hby d36_55) rfl ((if0 _ _).trans (teq (by decide : ((0 : Int32) = (0 : Int32)))).1) (by decide) (by decide) ?_
     exact k_)
    have hq118 : own_rc p2 = (0 : Int32) := by simp [own_rc, own_m0, own_m1, c102, c105, c108]
    have hq119 : own_ra p2 u0 = u0 := by simp [own_ra, own_m0, own_m1, c102, c105, c108]
    have hq120 : own_rb p2 u1 = u1 := by simp [own_rb, own_m0, own_m1, c102, c105, c108]
    have hq121 : own_e0 p2 = (0 : Int32) := by simp [own_e0, own_m0, own_m1, c102, c105, c108]
    have hq122 : own_e1 p2 = (0 : Int32) := by simp [own_e1, own_m0, own_m1, c102, c105, c108]
    obtain ⟨fs, hr, hrun, hended, hW, hsame⟩ := X0.leave (v := none) (fun _ => rfl)
    refine ⟨_, _, p117 _ (X0.returnOut hx Bd.returns (hb hby d36_88) hr), hrun, hended, _, _, rfl, ?_, ⟨_, rfl⟩, hW, hsame.mono (by decide) (by decide)⟩
    show Q36 Z a1 tr bi sz rs ir w0 w1 rb ktr kbi ksz krs kir kw0 kw1 q0 q1 s0 s1 u0 u1 tvs t p2 p3 h0 n0 _ s₁.heap _
    rw [e0]
    exact ⟨q0, q1, s0, s1, tvs, t, rfl, N0, (Keep.refl h0 [a1, tr, sz, rs, ir, w0, w1]), F0, F1, F2, F3, F4, F5, F6, (by rw [hq118]; exact F7), F8, F9, F10, F11, (by rw [hq119, hq120]; exact F12), (by rw [hq121, hq122]; exact F13), F14, F15, htl, by omega⟩
  ·have p123 : Go p.tables e below _ (s₁.setTop (mkF m 18 #[.val (.ref a1), .val (.int p2), .val (.int p3), .val (.int (0 : Int32)), .unset, .unset] [])) := fun t_ k_ => p104 t_ (by
    refine XS.ifNo X0.here hx rfl (hb hby d36_15) rfl ((if0 _ _).trans (feq c105).1) ?_
    exact k_)
   have p124 : Go p.tables e below _ (s₁.setTop (mkF m 28 #[.val (.ref a1), .val (.int p2), .val (.int p3), .val (.int (0 : Int32)), .val (.int (1 : Int32)), .unset] [(.int (p2 &&& (4 : Int32)))])) := fun t_ k_ => p123 t_ (by
    refine XS.iconst X0.here hx rfl (hb hby d36_18) ?_
    refine XS.goto X0.here hx rfl (pc0 := 19) (pc' := 23) rfl (hb hby d36_19) (by decide) (by decide) ?_
    refine XS.istore X0.here hx rfl (hb hby d36_23) rfl (l' := #[.val (.ref a1), .val (.int p2), .val (.int p3), .val (.int (0 : Int32)), .val (.int (1 : Int32)), .unset]) rfl ?_
    refine XS.iloadN X0.here hx rfl (hb hby d36_25) rfl ?_
    refine XS.iconst X0.here hx rfl (hb hby d36_26) ?_
    refine XS.iand X0.here hx rfl (hb hby d36_27) rfl ?_
    exact k_)
   by_cases c125 : (p2 &&& (4 : Int32)) = (0 : Int32)
   ·have p126 : Go p.tables e below _ (s₁.setTop (mkF m 35 #[.val (.ref a1), .val (.int p2), .val (.int p3), .val (.int (0 : Int32)), .val (.int (1 : Int32)), .unset] [])) := fun t_ k_ => p124 t_ (by
     refine XS.ifYes X0.here hx rfl (pc0 := 28) (pc' := 35) rfl (hb hby d36_28) rfl ((if0 _ _).trans (teq c125).1) (by decide) (by decide) ?_
     exact k_)
    have p127 : Go p.tables e below _ (s₁.setTop (mkF m 85 #[.val (.ref a1), .val (.int p2), .val (.int p3), .val (.int (0 : Int32)), .val (.int (1 : Int32)), .val (.int (0 : Int32))] [(.int p3), (.int (1 : Int32)), (.ref a1)])) := fun t_ k_ => p126 t_ (by
     refine XS.iconst X0.here hx rfl (hb hby d36_35) ?_
     refine XS.istore X0.here hx rfl (hb hby d36_36) rfl (l' := #[.val (.ref a1), .val (.int p2), .val (.int p3), .val (.int (0 : Int32)), .val (.int (1 : Int32)), .val (.int (0 : Int32))]) rfl ?_
     refine XS.iload X0.here hx rfl (hb hby d36_38) rfl ?_
     refine XS.ifYes X0.here hx rfl (pc0 := 40) (pc' := 67) rfl (hb hby d36_40) rfl ((if0 _ _).trans (teq (by decide : ((0 : Int32) = (0 : Int32)))).1) (by decide) (by decide) ?_
     refine XS.iloadN X0.here hx rfl (hb hby d36_67) rfl ?_
     refine XS.ifYes X0.here hx rfl (pc0 := 68) (pc' := 77) rfl (hb hby d36_68) rfl ((if0 _ _).trans (teq (by decide : ((0 : Int32) = (0 : Int32)))).1) (by decide) (by decide) ?_
     refine XS.iload X0.here hx rfl (hb hby d36_77) rfl ?_
     refine XS.ifNo X0.here hx rfl (hb hby d36_79) rfl ((if0 _ _).trans (feq (by decide : ¬ ((1 : Int32) = (0 : Int32)))).1) ?_
     refine XS.aloadN X0.here hx rfl (hb hby d36_82) rfl rfl ?_
     refine XS.iconst X0.here hx rfl (hb hby d36_83) ?_
     refine XS.iloadN X0.here hx rfl (hb hby d36_84) rfl ?_
     exact k_)
    obtain ⟨cq128, kq128, q128a, q128b, q128c⟩ := isOf hZ e0 F0
    obtain ⟨_, _, ⟨T128, L128, k128, n128⟩, -, X128, ⟨Lc128, hQ128, l128, y128, z128⟩, st128⟩ := X0.virtualBack hx (y := (⟨"com/example/arcward/arcward/solver/Domains", "remove", "(II)V"⟩ : MethodName)) (z := (⟨"com/example/arcward/arcward/solver/Domains", "remove", "(II)V"⟩ : MethodName)) hown (mvT hZ (own_w hw 313 rfl)) (mvT hZ (own_w hw 314 rfl)) (notFace_of_selects (args := #[]) (mvT hZ (own_w hw 316 rfl))) (mvT hZ (own_w hw 316 rfl)) (mvT hZ (own_w hw 315 rfl)) (by decide) (backOf (W := 0) (rm39_1 l Z a0 hw [] a1 tr bi sz rs ir w0 w1 rb ktr kbi ksz krs kir kw0 kw1 q0 q1 s0 s1 u0 u1 (0 : Int32) tvs t (0 : Int32) p3 h0 n0 (Nat.le_trans Z0 (Keep.refl h0 [a1, tr, sz, rs, ir, w0, w1]).1) F0 F1 F2 F3 F4 F5 F6 F7 F8 F9 F10 F11 F12 F13 F14 F15 ND GE (by decide) (by omega) htl hv) hZ (own_w hw 317 rfl) (own_w hw 91 rfl) (by decide) (by decide)) q128a q128c (g := (mkF m 85 #[.val (.ref a1), .val (.int p2), .val (.int p3), .val (.int (0 : Int32)), .val (.int (1 : Int32)), .val (.int (0 : Int32))] [(.int p3), (.int (1 : Int32)), (.ref a1)])) rfl (by rw [hml]; rfl) (Steps.refl _) (argsL := [(.int (1 : Int32)), (.int p3)]) (rest := []) (lenOf pd20 rfl) rfl (by show 2 * 0 + _ ≤ _; exact Nat.le_of_eq rfl) (hb hby d36_85) (fun _ _ => ⟨rfl, e0, (by decide : 0 + 0 ≤ _), (by decide : 0 + 0 ≤ _)⟩)
    dsimp only [Pt.U, Pt.locs, Pt.cells, Pt.slots] at X128 l128 y128 z128 st128 hQ128
    subst l128 y128 z128
    obtain ⟨x129, x130, x131, rfl, N128q, q128_K, q128_F0, q128_F1, q128_F2, q128_F3, q128_F4, q128_F5, q128_F6, q128_F7, q128_F8, q128_F9, q128_F10, q128_F11, q128_F12, q128_F13, q128_F14, q128_F15, q128_l⟩ := hQ128
    have N128 := Fr.app N0 N128q
    have K132 : Keep h0 T128.heap [a1, tr, sz, rs, ir, w0, w1] := (Keep.refl h0 [a1, tr, sz, rs, ir, w0, w1]).trans q128_K (allS (Or.inl (List.mem_of_getElem? (i := 0) rfl)) (allS (Or.inl (List.mem_of_getElem? (i := 1) rfl)) (allS (Or.inl (List.mem_of_getElem? (i := 2) rfl)) (allS (Or.inl (List.mem_of_getElem? (i := 3) rfl)) (allS (Or.inl (List.mem_of_getElem? (i := 4) rfl)) (allS (Or.inl (List.mem_of_getElem? (i := 6) rfl)) all0))))))
    have hq133 : own_rc p2 = ((0 : Int32) + (1 : Int32)) := by simp [own_rc, own_m0, own_m1, c102, c105, c125]
    have hq134 : own_ra p2 u0 = (own_m0 (0 : Int32) (1 : Int32) u0) := by simp [own_ra, own_m0, own_m1, c102, c105, c125]
    have hq135 : own_rb p2 u1 = (own_m1 (0 : Int32) (1 : Int32) u1) := by simp [own_rb, own_m0, own_m1, c102, c105, c125]
    have hq136 : own_e0 p2 = (0 : Int32) := by simp [own_e0, own_m0, own_m1, c102, c105, c125]
    have hq137 : own_e1 p2 = (1 : Int32) := by simp [own_e1, own_m0, own_m1, c102, c105, c125]
    obtain ⟨fs, hr, hrun, hended, hW, hsame⟩ := X128.leave (v := none) (fun _ => rfl)
    refine ⟨_, _, (gcT p127 st128) _ (X128.returnOut hx Bd.returns (hb hby d36_88) hr), hrun, hended, _, _, rfl, ?_, ⟨_, rfl⟩, hW, hsame.mono (by decide) (by decide)⟩
    show Q36 Z a1 tr bi sz rs ir w0 w1 rb ktr kbi ksz krs kir kw0 kw1 q0 q1 s0 s1 u0 u1 tvs t p2 p3 h0 n0 _ T128.heap _
    exact ⟨q0, x129, s0, x130, x131, (t + 3), rfl, N128, K132, q128_F0, q128_F1, q128_F2, q128_F3, q128_F4, q128_F5, q128_F6, (by rw [hq133]; exact q128_F7), q128_F8, q128_F9, q128_F10, q128_F11, (by rw [hq134, hq135]; exact q128_F12), (by rw [hq136, hq137]; exact q128_F13), q128_F14, q128_F15, q128_l, by omega⟩
   ·have p138 : Go p.tables e below _ (s₁.setTop (mkF m 31 #[.val (.ref a1), .val (.int p2), .val (.int p3), .val (.int (0 : Int32)), .val (.int (1 : Int32)), .unset] [])) := fun t_ k_ => p124 t_ (by
     refine XS.ifNo X0.here hx rfl (hb hby d36_28) rfl ((if0 _ _).trans (feq c125).1) ?_
     exact k_)
    have p139 : Go p.tables e below _ (s₁.setTop (mkF m 51 #[.val (.ref a1), .val (.int p2), .val (.int p3), .val (.int (0 : Int32)), .val (.int (1 : Int32)), .val (.int (1 : Int32))] [(.int p3), (.int (1 : Int32)), (.ref a1)])) := fun t_ k_ => p138 t_ (by
     refine XS.iconst X0.here hx rfl (hb hby d36_31) ?_
     refine XS.goto X0.here hx rfl (pc0 := 32) (pc' := 36) rfl (hb hby d36_32) (by decide) (by decide) ?_
     refine XS.istore X0.here hx rfl (hb hby d36_36) rfl (l' := #[.val (.ref a1), .val (.int p2), .val (.int p3), .val (.int (0 : Int32)), .val (.int (1 : Int32)), .val (.int (1 : Int32))]) rfl ?_
     refine XS.iload X0.here hx rfl (hb hby d36_38) rfl ?_
     refine XS.ifNo X0.here hx rfl (hb hby d36_40) rfl ((if0 _ _).trans (feq (by decide : ¬ ((1 : Int32) = (0 : Int32)))).1) ?_
     refine XS.iload X0.here hx rfl (hb hby d36_43) rfl ?_
     refine XS.ifNo X0.here hx rfl (hb hby d36_45) rfl ((if0 _ _).trans (feq (by decide : ¬ ((1 : Int32) = (0 : Int32)))).1) ?_
     refine XS.aloadN X0.here hx rfl (hb hby d36_48) rfl rfl ?_
     refine XS.iconst X0.here hx rfl (hb hby d36_49) ?_
     refine XS.iloadN X0.here hx rfl (hb hby d36_50) rfl ?_
     exact k_)
    obtain ⟨cq140, kq140, q140a, q140b, q140c⟩ := isOf hZ e0 F0
    obtain ⟨_, _, ⟨T140, L140, k140, n140⟩, -, X140, ⟨Lc140, hQ140, l140, y140, z140⟩, st140⟩ := X0.virtualBack hx (y := (⟨"com/example/arcward/arcward/solver/Domains", "remove", "(II)V"⟩ : MethodName)) (z := (⟨"com/example/arcward/arcward/solver/Domains", "remove", "(II)V"⟩ : MethodName)) hown (mvT hZ (own_w hw 313 rfl)) (mvT hZ (own_w hw 314 rfl)) (notFace_of_selects (args := #[]) (mvT hZ (own_w hw 316 rfl))) (mvT hZ (own_w hw 316 rfl)) (mvT hZ (own_w hw 315 rfl)) (by decide) (backOf (W := 0) (rm39_1 l Z a0 hw [] a1 tr bi sz rs ir w0 w1 rb ktr kbi ksz krs kir kw0 kw1 q0 q1 s0 s1 u0 u1 (0 : Int32) tvs t (0 : Int32) p3 h0 n0 (Nat.le_trans Z0 (Keep.refl h0 [a1, tr, sz, rs, ir, w0, w1]).1) F0 F1 F2 F3 F4 F5 F6 F7 F8 F9 F10 F11 F12 F13 F14 F15 ND GE (by decide) (by omega) htl hv) hZ (own_w hw 317 rfl) (own_w hw 91 rfl) (by decide) (by decide)) q140a q140c (g := (mkF m 51 #[.val (.ref a1), .val (.int p2), .val (.int p3), .val (.int (0 : Int32)), .val (.int (1 : Int32)), .val (.int (1 : Int32))] [(.int p3), (.int (1 : Int32)), (.ref a1)])) rfl (by rw [hml]; rfl) (Steps.refl _) (argsL := [(.int (1 : Int32)), (.int p3)]) (rest := []) (lenOf pd20 rfl) rfl (by show 2 * 0 + _ ≤ _; exact Nat.le_of_eq rfl) (hb hby d36_51) (fun _ _ => ⟨rfl, e0, (by decide : 0 + 0 ≤ _), (by decide : 0 + 0 ≤ _)⟩)
    dsimp only [Pt.U, Pt.locs, Pt.cells, Pt.slots] at X140 l140 y140 z140 st140 hQ140
    subst l140 y140 z140
    obtain ⟨x141, x142, x143, rfl, N140q, q140_K, q140_F0, q140_F1, q140_F2, q140_F3, q140_F4, q140_F5, q140_F6, q140_F7, q140_F8, q140_F9, q140_F10, q140_F11, q140_F12, q140_F13, q140_F14, q140_F15, q140_l⟩ := hQ140
    have N140 := Fr.app N0 N140q
    have K144 : Keep h0 T140.heap [a1, tr, sz, rs, ir, w0, w1] := (Keep.refl h0 [a1, tr, sz, rs, ir, w0, w1]).trans q140_K (allS (Or.inl (List.mem_of_getElem? (i := 0) rfl)) (allS (Or.inl (List.mem_of_getElem? (i := 1) rfl)) (allS (Or.inl (List.mem_of_getElem? (i := 2) rfl)) (allS (Or.inl (List.mem_of_getElem? (i := 3) rfl)) (allS (Or.inl (List.mem_of_getElem? (i := 4) rfl)) (allS (Or.inl (List.mem_of_getElem? (i := 6) rfl)) all0))))))
    have p145 : Go p.tables e below _ (T140.setTop (mkF m 88 #[.val (.ref a1), .val (.int p2), .val (.int p3), .val (.int (0 : Int32)), .val (.int (1 : Int32)), .val (.int (1 : Int32))] [])) := fun t_ k_ => (gcT p139 st140) t_ (by
     refine XS.iloadN X140.here hx rfl (hb hby d36_54) rfl ?_
     refine XS.ifYes X140.here hx rfl (pc0 := 55) (pc' := 88) rfl (hb hby d36_55) rfl ((if0 _ _).trans (teq (by decide : ((0 : Int32) = (0 : Int32)))).1) (by decide) (by decide) ?_
     exact k_)
    have hq146 : own_rc p2 = ((0 : Int32) + (1 : Int32)) := by simp [own_rc, own_m0, own_m1, c102, c105, c125]
    have hq147 : own_ra p2 u0 = (own_m0 (0 : Int32) (1 : Int32) u0) := by simp [own_ra, own_m0, own_m1, c102, c105, c125]
    have hq148 : own_rb p2 u1 = (own_m1 (0 : Int32) (1 : Int32) u1) := by simp [own_rb, own_m0, own_m1, c102, c105, c125]
    have hq149 : own_e0 p2 = (0 : Int32) := by simp [own_e0, own_m0, own_m1, c102, c105, c125]
    have hq150 : own_e1 p2 = (1 : Int32) := by simp [own_e1, own_m0, own_m1, c102, c105, c125]
    obtain ⟨fs, hr, hrun, hended, hW, hsame⟩ := X140.leave (v := none) (fun _ => rfl)
    refine ⟨_, _, p145 _ (X140.returnOut hx Bd.returns (hb hby d36_88) hr), hrun, hended, _, _, rfl, ?_, ⟨_, rfl⟩, hW, hsame.mono (by decide) (by decide)⟩
    show Q36 Z a1 tr bi sz rs ir w0 w1 rb ktr kbi ksz krs kir kw0 kw1 q0 q1 s0 s1 u0 u1 tvs t p2 p3 h0 n0 _ T140.heap _
    exact ⟨q0, x141, s0, x142, x143, (t + 3), rfl, N140, K144, q140_F0, q140_F1, q140_F2, q140_F3, q140_F4, q140_F5, q140_F6, (by rw [hq146]; exact q140_F7), q140_F8, q140_F9, q140_F10, q140_F11, (by rw [hq147, hq148]; exact q140_F12), (by rw [hq149, hq150]; exact q140_F13), q140_F14, q140_F15, q140_l, by omega⟩
 ·have p151 : Go p.tables e below _ (s₁.setTop (mkF m 6 #[.val (.ref a1), .val (.int p2), .val (.int p3), .unset, .unset, .unset] [])) := fun t_ k_ => p101 t_ (by
   refine XS.ifNo X0.here hx rfl (hb hby d36_3) rfl ((if0 _ _).trans (feq c102).1) ?_
   exact k_)
  have p152 : Go p.tables e below _ (s₁.setTop (mkF m 15 #[.val (.ref a1), .val (.int p2), .val (.int p3), .val (.int (1 : Int32)), .unset, .unset] [(.int (p2 &&& (2 : Int32)))])) := fun t_ k_ => p151 t_ (by
   refine XS.iconst X0.here hx rfl (hb hby d36_6) ?_
   refine XS.goto X0.here hx rfl (pc0 := 7) (pc' := 11) rfl (hb hby d36_7) (by decide) (by decide) ?_
   refine XS.istoreN X0.here hx rfl (hb hby d36_11) rfl (l' := #[.val (.ref a1), .val (.int p2), .val (.int p3), .val (.int (1 : Int32)), .unset, .unset]) rfl ?_
   refine XS.iloadN X0.here hx rfl (hb hby d36_12) rfl ?_
   refine XS.iconst X0.here hx rfl (hb hby d36_13) ?_
   refine XS.iand X0.here hx rfl (hb hby d36_14) rfl ?_
   exact k_)
  by_cases c153 : (p2 &&& (2 : Int32)) = (0 : Int32)
  ·have p154 : Go p.tables e below _ (s₁.setTop (mkF m 22 #[.val (.ref a1), .val (.int p2), .val (.int p3), .val (.int (1 : Int32)), .unset, .unset] [])) := fun t_ k_ => p152 t_ (by
    refine XS.ifYes X0.here hx rfl (pc0 := 15) (pc' := 22) rfl (hb hby d36_15) rfl ((if0 _ _).trans (teq c153).1) (by decide) (by decide) ?_
    exact k_)
   have p155 : Go p.tables e below _ (s₁.setTop (mkF m 28 #[.val (.ref a1), .val (.int p2), .val (.int p3), .val (.int (1 : Int32)), .val (.int (0 : Int32)), .unset] [(.int (p2 &&& (4 : Int32)))])) := fun t_ k_ => p154 t_ (by
    refine XS.iconst X0.here hx rfl (hb hby d36_22) ?_
    refine XS.istore X0.here hx rfl (hb hby d36_23) rfl (l' := #[.val (.ref a1), .val (.int p2), .val (.int p3), .val (.int (1 : Int32)), .val (.int (0 : Int32)), .unset]) rfl ?_
    refine XS.iloadN X0.here hx rfl (hb hby d36_25) rfl ?_
    refine XS.iconst X0.here hx rfl (hb hby d36_26) ?_
    refine XS.iand X0.here hx rfl (hb hby d36_27) rfl ?_
    exact k_)
   by_cases c156 : (p2 &&& (4 : Int32)) = (0 : Int32)
   ·have p157 : Go p.tables e below _ (s₁.setTop (mkF m 35 #[.val (.ref a1), .val (.int p2), .val (.int p3), .val (.int (1 : Int32)), .val (.int (0 : Int32)), .unset] [])) := fun t_ k_ => p155 t_ (by
     refine XS.ifYes X0.here hx rfl (pc0 := 28) (pc' := 35) rfl (hb hby d36_28) rfl ((if0 _ _).trans (teq c156).1) (by decide) (by decide) ?_
     exact k_)
    have p158 : Go p.tables e below _ (s₁.setTop (mkF m 74 #[.val (.ref a1), .val (.int p2), .val (.int p3), .val (.int (1 : Int32)), .val (.int (0 : Int32)), .val (.int (0 : Int32))] [(.int p3), (.int (0 : Int32)), (.ref a1)])) := fun t_ k_ => p157 t_ (by
     refine XS.iconst X0.here hx rfl (hb hby d36_35) ?_
     refine XS.istore X0.here hx rfl (hb hby d36_36) rfl (l' := #[.val (.ref a1), .val (.int p2), .val (.int p3), .val (.int (1 : Int32)), .val (.int (0 : Int32)), .val (.int (0 : Int32))]) rfl ?_
     refine XS.iload X0.here hx rfl (hb hby d36_38) rfl ?_
     refine XS.ifYes X0.here hx rfl (pc0 := 40) (pc' := 67) rfl (hb hby d36_40) rfl ((if0 _ _).trans (teq (by decide : ((0 : Int32) = (0 : Int32)))).1) (by decide) (by decide) ?_
     refine XS.iloadN X0.here hx rfl (hb hby d36_67) rfl ?_
     refine XS.ifNo X0.here hx rfl (hb hby d36_68) rfl ((if0 _ _).trans (feq (by decide : ¬ ((1 : Int32) = (0 : Int32)))).1) ?_
     refine XS.aloadN X0.here hx rfl (hb hby d36_71) rfl rfl ?_
     refine XS.iconst X0.here hx rfl (hb hby d36_72) ?_
     refine XS.iloadN X0.here hx rfl (hb hby d36_73) rfl ?_
     exact k_)
    obtain ⟨cq159, kq159, q159a, q159b, q159c⟩ := isOf hZ e0 F0
    obtain ⟨_, _, ⟨T159, L159, k159, n159⟩, -, X159, ⟨Lc159, hQ159, l159, y159, z159⟩, st159⟩ := X0.virtualBack hx (y := (⟨"com/example/arcward/arcward/solver/Domains", "remove", "(II)V"⟩ : MethodName)) (z := (⟨"com/example/arcward/arcward/solver/Domains", "remove", "(II)V"⟩ : MethodName)) hown (mvT hZ (own_w hw 313 rfl)) (mvT hZ (own_w hw 314 rfl)) (notFace_of_selects (args := #[]) (mvT hZ (own_w hw 316 rfl))) (mvT hZ (own_w hw 316 rfl)) (mvT hZ (own_w hw 315 rfl)) (by decide) (backOf (W := 0) (rm39_0 l Z a0 hw [] a1 tr bi sz rs ir w0 w1 rb ktr kbi ksz krs kir kw0 kw1 q0 q1 s0 s1 u0 u1 (0 : Int32) tvs t (0 : Int32) p3 h0 n0 (Nat.le_trans Z0 (Keep.refl h0 [a1, tr, sz, rs, ir, w0, w1]).1) F0 F1 F2 F3 F4 F5 F6 F7 F8 F9 F10 F11 F12 F13 F14 F15 ND GE (by decide) (by omega) htl hv) hZ (own_w hw 317 rfl) (own_w hw 91 rfl) (by decide) (by decide)) q159a q159c (g := (mkF m 74 #[.val (.ref a1), .val (.int p2), .val (.int p3), .val (.int (1 : Int32)), .val (.int (0 : Int32)), .val (.int (0 : Int32))] [(.int p3), (.int (0 : Int32)), (.ref a1)])) rfl (by rw [hml]; rfl) (Steps.refl _) (argsL := [(.int (0 : Int32)), (.int p3)]) (rest := []) (lenOf pd20 rfl) rfl (by show 2 * 0 + _ ≤ _; exact Nat.le_of_eq rfl) (hb hby d36_74) (fun _ _ => ⟨rfl, e0, (by decide : 0 + 0 ≤ _), (by decide : 0 + 0 ≤ _)⟩)
    dsimp only [Pt.U, Pt.locs, Pt.cells, Pt.slots] at X159 l159 y159 z159 st159 hQ159
    subst l159 y159 z159
    obtain ⟨x160, x161, x162, rfl, N159q, q159_K, q159_F0, q159_F1, q159_F2, q159_F3, q159_F4, q159_F5, q159_F6, q159_F7, q159_F8, q159_F9, q159_F10, q159_F11, q159_F12, q159_F13, q159_F14, q159_F15, q159_l⟩ := hQ159
    have N159 := Fr.app N0 N159q
    have K163 : Keep h0 T159.heap [a1, tr, sz, rs, ir, w0, w1] := (Keep.refl h0 [a1, tr, sz, rs, ir, w0, w1]).trans q159_K (allS (Or.inl (List.mem_of_getElem? (i := 0) rfl)) (allS (Or.inl (List.mem_of_getElem? (i := 1) rfl)) (allS (Or.inl (List.mem_of_getElem? (i := 2) rfl)) (allS (Or.inl (List.mem_of_getElem? (i := 3) rfl)) (allS (Or.inl (List.mem_of_getElem? (i := 4) rfl)) (allS (Or.inl (List.mem_of_getElem? (i := 5) rfl)) all0))))))
    have p164 : Go p.tables e below _ (T159.setTop (mkF m 88 #[.val (.ref a1), .val (.int p2), .val (.int p3), .val (.int (1 : Int32)), .val (.int (0 : Int32)), .val (.int (0 : Int32))] [])) := fun t_ k_ => (gcT p158 st159) t_ (by
     refine XS.iload X159.here hx rfl (hb hby d36_77) rfl ?_
     refine XS.ifYes X159.here hx rfl (pc0 := 79) (pc' := 88) rfl (hb hby d36_79) rfl ((if0 _ _).trans (teq (by decide : ((0 : Int32) = (0 : Int32)))).1) (by decide) (by decide) ?_
     exact k_)
    have hq165 : own_rc p2 = ((0 : Int32) + (1 : Int32)) := by simp [own_rc, own_m0, own_m1, c102, c153, c156]
    have hq166 : own_ra p2 u0 = (own_m0 (0 : Int32) (0 : Int32) u0) := by simp [own_ra, own_m0, own_m1, c102, c153, c156]
    have hq167 : own_rb p2 u1 = (own_m1 (0 : Int32) (0 : Int32) u1) := by simp [own_rb, own_m0, own_m1, c102, c153, c156]
    have hq168 : own_e0 p2 = (1 : Int32) := by simp [own_e0, own_m0, own_m1, c102, c153, c156]
    have hq169 : own_e1 p2 = (0 : Int32) := by simp [own_e1, own_m0, own_m1, c102, c153, c156]
    obtain ⟨fs, hr, hrun, hended, hW, hsame⟩ := X159.leave (v := none) (fun _ => rfl)
    refine ⟨_, _, p164 _ (X159.returnOut hx Bd.returns (hb hby d36_88) hr), hrun, hended, _, _, rfl, ?_, ⟨_, rfl⟩, hW, hsame.mono (by decide) (by decide)⟩
    show Q36 Z a1 tr bi sz rs ir w0 w1 rb ktr kbi ksz krs kir kw0 kw1 q0 q1 s0 s1 u0 u1 tvs t p2 p3 h0 n0 _ T159.heap _
    exact ⟨x160, q1, x161, s1, x162, (t + 3), rfl, N159, K163, q159_F0, q159_F1, q159_F2, q159_F3, q159_F4, q159_F5, q159_F6, (by rw [hq165]; exact q159_F7), q159_F8, q159_F9, q159_F10, q159_F11, (by rw [hq166, hq167]; exact q159_F12), (by rw [hq168, hq169]; exact q159_F13), q159_F14, q159_F15, q159_l, by omega⟩
   ·have p170 : Go p.tables e below _ (s₁.setTop (mkF m 31 #[.val (.ref a1), .val (.int p2), .val (.int p3), .val (.int (1 : Int32)), .val (.int (0 : Int32)), .unset] [])) := fun t_ k_ => p155 t_ (by
     refine XS.ifNo X0.here hx rfl (hb hby d36_28) rfl ((if0 _ _).trans (feq c156).1) ?_
     exact k_)
    have p171 : Go p.tables e below _ (s₁.setTop (mkF m 61 #[.val (.ref a1), .val (.int p2), .val (.int p3), .val (.int (1 : Int32)), .val (.int (0 : Int32)), .val (.int (1 : Int32))] [(.int p3), (.int (0 : Int32)), (.ref a1)])) := fun t_ k_ => p170 t_ (by
     refine XS.iconst X0.here hx rfl (hb hby d36_31) ?_
     refine XS.goto X0.here hx rfl (pc0 := 32) (pc' := 36) rfl (hb hby d36_32) (by decide) (by decide) ?_
     refine XS.istore X0.here hx rfl (hb hby d36_36) rfl (l' := #[.val (.ref a1), .val (.int p2), .val (.int p3), .val (.int (1 : Int32)), .val (.int (0 : Int32)), .val (.int (1 : Int32))]) rfl ?_
     refine XS.iload X0.here hx rfl (hb hby d36_38) rfl ?_
     refine XS.ifNo X0.here hx rfl (hb hby d36_40) rfl ((if0 _ _).trans (feq (by decide : ¬ ((1 : Int32) = (0 : Int32)))).1) ?_
     refine XS.iload X0.here hx rfl (hb hby d36_43) rfl ?_
     refine XS.ifYes X0.here hx rfl (pc0 := 45) (pc' := 54) rfl (hb hby d36_45) rfl ((if0 _ _).trans (teq (by decide : ((0 : Int32) = (0 : Int32)))).1) (by decide) (by decide) ?_
     refine XS.iloadN X0.here hx rfl (hb hby d36_54) rfl ?_
     refine XS.ifNo X0.here hx rfl (hb hby d36_55) rfl ((if0 _ _).trans (feq (by decide : ¬ ((1 : Int32) = (0 : Int32)))).1) ?_
     refine XS.aloadN X0.here hx rfl (hb hby d36_58) rfl rfl ?_
     refine XS.iconst X0.here hx rfl (hb hby d36_59) ?_
     refine XS.iloadN X0.here hx rfl (hb hby d36_60) rfl ?_
     exact k_)
    obtain ⟨cq172, kq172, q172a, q172b, q172c⟩ := isOf hZ e0 F0
    obtain ⟨_, _, ⟨T172, L172, k172, n172⟩, -, X172, ⟨Lc172, hQ172, l172, y172, z172⟩, st172⟩ := X0.virtualBack hx (y := (⟨"com/example/arcward/arcward/solver/Domains", "remove", "(II)V"⟩ : MethodName)) (z := (⟨"com/example/arcward/arcward/solver/Domains", "remove", "(II)V"⟩ : MethodName)) hown (mvT hZ (own_w hw 313 rfl)) (mvT hZ (own_w hw 314 rfl)) (notFace_of_selects (args := #[]) (mvT hZ (own_w hw 316 rfl))) (mvT hZ (own_w hw 316 rfl)) (mvT hZ (own_w hw 315 rfl)) (by decide) (backOf (W := 0) (rm39_0 l Z a0 hw [] a1 tr bi sz rs ir w0 w1 rb ktr kbi ksz krs kir kw0 kw1 q0 q1 s0 s1 u0 u1 (0 : Int32) tvs t (0 : Int32) p3 h0 n0 (Nat.le_trans Z0 (Keep.refl h0 [a1, tr, sz, rs, ir, w0, w1]).1) F0 F1 F2 F3 F4 F5 F6 F7 F8 F9 F10 F11 F12 F13 F14 F15 ND GE (by decide) (by omega) htl hv) hZ (own_w hw 317 rfl) (own_w hw 91 rfl) (by decide) (by decide)) q172a q172c (g := (mkF m 61 #[.val (.ref a1), .val (.int p2), .val (.int p3), .val (.int (1 : Int32)), .val (.int (0 : Int32)), .val (.int (1 : Int32))] [(.int p3), (.int (0 : Int32)), (.ref a1)])) rfl (by rw [hml]; rfl) (Steps.refl _) (argsL := [(.int (0 : Int32)), (.int p3)]) (rest := []) (lenOf pd20 rfl) rfl (by show 2 * 0 + _ ≤ _; exact Nat.le_of_eq rfl) (hb hby d36_61) (fun _ _ => ⟨rfl, e0, (by decide : 0 + 0 ≤ _), (by decide : 0 + 0 ≤ _)⟩)
    dsimp only [Pt.U, Pt.locs, Pt.cells, Pt.slots] at X172 l172 y172 z172 st172 hQ172
    subst l172 y172 z172
    obtain ⟨x173, x174, x175, rfl, N172q, q172_K, q172_F0, q172_F1, q172_F2, q172_F3, q172_F4, q172_F5, q172_F6, q172_F7, q172_F8, q172_F9, q172_F10, q172_F11, q172_F12, q172_F13, q172_F14, q172_F15, q172_l⟩ := hQ172
    have N172 := Fr.app N0 N172q
    have K176 : Keep h0 T172.heap [a1, tr, sz, rs, ir, w0, w1] := (Keep.refl h0 [a1, tr, sz, rs, ir, w0, w1]).trans q172_K (allS (Or.inl (List.mem_of_getElem? (i := 0) rfl)) (allS (Or.inl (List.mem_of_getElem? (i := 1) rfl)) (allS (Or.inl (List.mem_of_getElem? (i := 2) rfl)) (allS (Or.inl (List.mem_of_getElem? (i := 3) rfl)) (allS (Or.inl (List.mem_of_getElem? (i := 4) rfl)) (allS (Or.inl (List.mem_of_getElem? (i := 5) rfl)) all0))))))
    have p177 : Go p.tables e below _ (T172.setTop (mkF m 88 #[.val (.ref a1), .val (.int p2), .val (.int p3), .val (.int (1 : Int32)), .val (.int (0 : Int32)), .val (.int (1 : Int32))] [])) := fun t_ k_ => (gcT p171 st172) t_ (by
     refine XS.goto X172.here hx rfl (pc0 := 64) (pc' := 88) rfl (hb hby d36_64) (by decide) (by decide) ?_
     exact k_)
    have hq178 : own_rc p2 = ((0 : Int32) + (1 : Int32)) := by simp [own_rc, own_m0, own_m1, c102, c153, c156]
    have hq179 : own_ra p2 u0 = (own_m0 (0 : Int32) (0 : Int32) u0) := by simp [own_ra, own_m0, own_m1, c102, c153, c156]
    have hq180 : own_rb p2 u1 = (own_m1 (0 : Int32) (0 : Int32) u1) := by simp [own_rb, own_m0, own_m1, c102, c153, c156]
    have hq181 : own_e0 p2 = (1 : Int32) := by simp [own_e0, own_m0, own_m1, c102, c153, c156]
    have hq182 : own_e1 p2 = (0 : Int32) := by simp [own_e1, own_m0, own_m1, c102, c153, c156]
    obtain ⟨fs, hr, hrun, hended, hW, hsame⟩ := X172.leave (v := none) (fun _ => rfl)
    refine ⟨_, _, p177 _ (X172.returnOut hx Bd.returns (hb hby d36_88) hr), hrun, hended, _, _, rfl, ?_, ⟨_, rfl⟩, hW, hsame.mono (by decide) (by decide)⟩
    show Q36 Z a1 tr bi sz rs ir w0 w1 rb ktr kbi ksz krs kir kw0 kw1 q0 q1 s0 s1 u0 u1 tvs t p2 p3 h0 n0 _ T172.heap _
    exact ⟨x173, q1, x174, s1, x175, (t + 3), rfl, N172, K176, q172_F0, q172_F1, q172_F2, q172_F3, q172_F4, q172_F5, q172_F6, (by rw [hq178]; exact q172_F7), q172_F8, q172_F9, q172_F10, q172_F11, (by rw [hq179, hq180]; exact q172_F12), (by rw [hq181, hq182]; exact q172_F13), q172_F14, q172_F15, q172_l, by omega⟩
  ·have p183 : Go p.tables e below _ (s₁.setTop (mkF m 18 #[.val (.ref a1), .val (.int p2), .val (.int p3), .val (.int (1 : Int32)), .unset, .unset] [])) := fun t_ k_ => p152 t_ (by
    refine XS.ifNo X0.here hx rfl (hb hby d36_15) rfl ((if0 _ _).trans (feq c153).1) ?_
    exact k_)
   have p184 : Go p.tables e below _ (s₁.setTop (mkF m 28 #[.val (.ref a1), .val (.int p2), .val (.int p3), .val (.int (1 : Int32)), .val (.int (1 : Int32)), .unset] [(.int (p2 &&& (4 : Int32)))])) := fun t_ k_ => p183 t_ (by
    refine XS.iconst X0.here hx rfl (hb hby d36_18) ?_
    refine XS.goto X0.here hx rfl (pc0 := 19) (pc' := 23) rfl (hb hby d36_19) (by decide) (by decide) ?_
    refine XS.istore X0.here hx rfl (hb hby d36_23) rfl (l' := #[.val (.ref a1), .val (.int p2), .val (.int p3), .val (.int (1 : Int32)), .val (.int (1 : Int32)), .unset]) rfl ?_
    refine XS.iloadN X0.here hx rfl (hb hby d36_25) rfl ?_
    refine XS.iconst X0.here hx rfl (hb hby d36_26) ?_
    refine XS.iand X0.here hx rfl (hb hby d36_27) rfl ?_
    exact k_)
   by_cases c185 : (p2 &&& (4 : Int32)) = (0 : Int32)
   ·have p186 : Go p.tables e below _ (s₁.setTop (mkF m 35 #[.val (.ref a1), .val (.int p2), .val (.int p3), .val (.int (1 : Int32)), .val (.int (1 : Int32)), .unset] [])) := fun t_ k_ => p184 t_ (by
     refine XS.ifYes X0.here hx rfl (pc0 := 28) (pc' := 35) rfl (hb hby d36_28) rfl ((if0 _ _).trans (teq c185).1) (by decide) (by decide) ?_
     exact k_)
    have p187 : Go p.tables e below _ (s₁.setTop (mkF m 74 #[.val (.ref a1), .val (.int p2), .val (.int p3), .val (.int (1 : Int32)), .val (.int (1 : Int32)), .val (.int (0 : Int32))] [(.int p3), (.int (0 : Int32)), (.ref a1)])) := fun t_ k_ => p186 t_ (by
     refine XS.iconst X0.here hx rfl (hb hby d36_35) ?_
     refine XS.istore X0.here hx rfl (hb hby d36_36) rfl (l' := #[.val (.ref a1), .val (.int p2), .val (.int p3), .val (.int (1 : Int32)), .val (.int (1 : Int32)), .val (.int (0 : Int32))]) rfl ?_
     refine XS.iload X0.here hx rfl (hb hby d36_38) rfl ?_
     refine XS.ifYes X0.here hx rfl (pc0 := 40) (pc' := 67) rfl (hb hby d36_40) rfl ((if0 _ _).trans (teq (by decide : ((0 : Int32) = (0 : Int32)))).1) (by decide) (by decide) ?_
     refine XS.iloadN X0.here hx rfl (hb hby d36_67) rfl ?_
     refine XS.ifNo X0.here hx rfl (hb hby d36_68) rfl ((if0 _ _).trans (feq (by decide : ¬ ((1 : Int32) = (0 : Int32)))).1) ?_
     refine XS.aloadN X0.here hx rfl (hb hby d36_71) rfl rfl ?_
     refine XS.iconst X0.here hx rfl (hb hby d36_72) ?_
     refine XS.iloadN X0.here hx rfl (hb hby d36_73) rfl ?_
     exact k_)
    obtain ⟨cq188, kq188, q188a, q188b, q188c⟩ := isOf hZ e0 F0
    obtain ⟨_, _, ⟨T188, L188, k188, n188⟩, -, X188, ⟨Lc188, hQ188, l188, y188, z188⟩, st188⟩ := X0.virtualBack hx (y := (⟨"com/example/arcward/arcward/solver/Domains", "remove", "(II)V"⟩ : MethodName)) (z := (⟨"com/example/arcward/arcward/solver/Domains", "remove", "(II)V"⟩ : MethodName)) hown (mvT hZ (own_w hw 313 rfl)) (mvT hZ (own_w hw 314 rfl)) (notFace_of_selects (args := #[]) (mvT hZ (own_w hw 316 rfl))) (mvT hZ (own_w hw 316 rfl)) (mvT hZ (own_w hw 315 rfl)) (by decide) (backOf (W := 0) (rm39_0 l Z a0 hw [] a1 tr bi sz rs ir w0 w1 rb ktr kbi ksz krs kir kw0 kw1 q0 q1 s0 s1 u0 u1 (0 : Int32) tvs t (0 : Int32) p3 h0 n0 (Nat.le_trans Z0 (Keep.refl h0 [a1, tr, sz, rs, ir, w0, w1]).1) F0 F1 F2 F3 F4 F5 F6 F7 F8 F9 F10 F11 F12 F13 F14 F15 ND GE (by decide) (by omega) htl hv) hZ (own_w hw 317 rfl) (own_w hw 91 rfl) (by decide) (by decide)) q188a q188c (g := (mkF m 74 #[.val (.ref a1), .val (.int p2), .val (.int p3), .val (.int (1 : Int32)), .val (.int (1 : Int32)), .val (.int (0 : Int32))] [(.int p3), (.int (0 : Int32)), (.ref a1)])) rfl (by rw [hml]; rfl) (Steps.refl _) (argsL := [(.int (0 : Int32)), (.int p3)]) (rest := []) (lenOf pd20 rfl) rfl (by show 2 * 0 + _ ≤ _; exact Nat.le_of_eq rfl) (hb hby d36_74) (fun _ _ => ⟨rfl, e0, (by decide : 0 + 0 ≤ _), (by decide : 0 + 0 ≤ _)⟩)
    dsimp only [Pt.U, Pt.locs, Pt.cells, Pt.slots] at X188 l188 y188 z188 st188 hQ188
    subst l188 y188 z188
    obtain ⟨x189, x190, x191, rfl, N188q, q188_K, q188_F0, q188_F1, q188_F2, q188_F3, q188_F4, q188_F5, q188_F6, q188_F7, q188_F8, q188_F9, q188_F10, q188_F11, q188_F12, q188_F13, q188_F14, q188_F15, q188_l⟩ := hQ188
    have N188 := Fr.app N0 N188q
    have K192 : Keep h0 T188.heap [a1, tr, sz, rs, ir, w0, w1] := (Keep.refl h0 [a1, tr, sz, rs, ir, w0, w1]).trans q188_K (allS (Or.inl (List.mem_of_getElem? (i := 0) rfl)) (allS (Or.inl (List.mem_of_getElem? (i := 1) rfl)) (allS (Or.inl (List.mem_of_getElem? (i := 2) rfl)) (allS (Or.inl (List.mem_of_getElem? (i := 3) rfl)) (allS (Or.inl (List.mem_of_getElem? (i := 4) rfl)) (allS (Or.inl (List.mem_of_getElem? (i := 5) rfl)) all0))))))
    have p193 : Go p.tables e below _ (T188.setTop (mkF m 85 #[.val (.ref a1), .val (.int p2), .val (.int p3), .val (.int (1 : Int32)), .val (.int (1 : Int32)), .val (.int (0 : Int32))] [(.int p3), (.int (1 : Int32)), (.ref a1)])) := fun t_ k_ => (gcT p187 st188) t_ (by
     refine XS.iload X188.here hx rfl (hb hby d36_77) rfl ?_
     refine XS.ifNo X188.here hx rfl (hb hby d36_79) rfl ((if0 _ _).trans (feq (by decide : ¬ ((1 : Int32) = (0 : Int32)))).1) ?_
     refine XS.aloadN X188.here hx rfl (hb hby d36_82) rfl rfl ?_
     refine XS.iconst X188.here hx rfl (hb hby d36_83) ?_
     refine XS.iloadN X188.here hx rfl (hb hby d36_84) rfl ?_
     exact k_)
    obtain ⟨cq194, kq194, q194a, q194b, q194c⟩ := isOf hZ rfl q188_F0
    obtain ⟨_, _, ⟨T194, L194, k194, n194⟩, -, X194, ⟨Lc194, hQ194, l194, y194, z194⟩, st194⟩ := X188.virtualBack hx (y := (⟨"com/example/arcward/arcward/solver/Domains", "remove", "(II)V"⟩ : MethodName)) (z := (⟨"com/example/arcward/arcward/solver/Domains", "remove", "(II)V"⟩ : MethodName)) hown (mvT hZ (own_w hw 313 rfl)) (mvT hZ (own_w hw 314 rfl)) (notFace_of_selects (args := #[]) (mvT hZ (own_w hw 316 rfl))) (mvT hZ (own_w hw 316 rfl)) (mvT hZ (own_w hw 315 rfl)) (by decide) (backOf (W := 0) (rm39_1 l Z a0 hw [] a1 tr bi sz rs ir w0 w1 rb ktr kbi ksz krs kir kw0 kw1 x189 q1 x190 s1 (own_m0 (0 : Int32) (0 : Int32) u0) (own_m1 (0 : Int32) (0 : Int32) u1) (1 : Int32) x191 (t + 3) ((0 : Int32) + (1 : Int32)) p3 T188.heap n0 (Nat.le_trans Z0 K192.1) q188_F0 q188_F1 q188_F2 q188_F3 q188_F4 q188_F5 q188_F6 q188_F7 q188_F8 q188_F9 q188_F10 q188_F11 q188_F12 q188_F13 q188_F14 q188_F15 ND GE (by decide) (by omega) q188_l hv) hZ (own_w hw 317 rfl) (own_w hw 91 rfl) (by decide) (by decide)) q194a q194c (g := (mkF m 85 #[.val (.ref a1), .val (.int p2), .val (.int p3), .val (.int (1 : Int32)), .val (.int (1 : Int32)), .val (.int (0 : Int32))] [(.int p3), (.int (1 : Int32)), (.ref a1)])) rfl (by rw [hml]; rfl) (Steps.refl _) (argsL := [(.int (1 : Int32)), (.int p3)]) (rest := []) (lenOf pd20 rfl) rfl (by show 2 * 0 + _ ≤ _; exact Nat.le_of_eq rfl) (hb hby d36_85) (fun _ _ => ⟨rfl, rfl, (by decide : 0 + 0 ≤ _), (by decide : 0 + 0 ≤ _)⟩)
    dsimp only [Pt.U, Pt.locs, Pt.cells, Pt.slots] at X194 l194 y194 z194 st194 hQ194
    subst l194 y194 z194
    obtain ⟨x195, x196, x197, rfl, N194q, q194_K, q194_F0, q194_F1, q194_F2, q194_F3, q194_F4, q194_F5, q194_F6, q194_F7, q194_F8, q194_F9, q194_F10, q194_F11, q194_F12, q194_F13, q194_F14, q194_F15, q194_l⟩ := hQ194
    have N194 := Fr.app N188 N194q
    have K198 : Keep h0 T194.heap [a1, tr, sz, rs, ir, w0, w1] := K192.trans q194_K (allS (Or.inl (List.mem_of_getElem? (i := 0) rfl)) (allS (Or.inl (List.mem_of_getElem? (i := 1) rfl)) (allS (Or.inl (List.mem_of_getElem? (i := 2) rfl)) (allS (Or.inl (List.mem_of_getElem? (i := 3) rfl)) (allS (Or.inl (List.mem_of_getElem? (i := 4) rfl)) (allS (Or.inl (List.mem_of_getElem? (i := 6) rfl)) all0))))))
    have hq199 : own_rc p2 = (((0 : Int32) + (1 : Int32)) + (1 : Int32)) := by simp [own_rc, own_m0, own_m1, c102, c153, c185]
    have hq200 : own_ra p2 u0 = (own_m0 ((0 : Int32) + (1 : Int32)) (1 : Int32) (own_m0 (0 : Int32) (0 : Int32) u0)) := by simp [own_ra, own_m0, own_m1, c102, c153, c185]
    have hq201 : own_rb p2 u1 = (own_m1 ((0 : Int32) + (1 : Int32)) (1 : Int32) (own_m1 (0 : Int32) (0 : Int32) u1)) := by simp [own_rb, own_m0, own_m1, c102, c153, c185]
    have hq202 : own_e0 p2 = (1 : Int32) := by simp [own_e0, own_m0, own_m1, c102, c153, c185]
    have hq203 : own_e1 p2 = (1 : Int32) := by simp [own_e1, own_m0, own_m1, c102, c153, c185]
    obtain ⟨fs, hr, hrun, hended, hW, hsame⟩ := X194.leave (v := none) (fun _ => rfl)
    refine ⟨_, _, (gcT p193 st194) _ (X194.returnOut hx Bd.returns (hb hby d36_88) hr), hrun, hended, _, _, rfl, ?_, ⟨_, rfl⟩, hW, hsame.mono (by decide) (by decide)⟩
    show Q36 Z a1 tr bi sz rs ir w0 w1 rb ktr kbi ksz krs kir kw0 kw1 q0 q1 s0 s1 u0 u1 tvs t p2 p3 h0 n0 _ T194.heap _
    exact ⟨x189, x195, x190, x196, x197, ((t + 3) + 3), rfl, N194, K198, q194_F0, q194_F1, q194_F2, q194_F3, q194_F4, q194_F5, q194_F6, (by rw [hq199]; exact q194_F7), q194_F8, q194_F9, q194_F10, q194_F11, (by rw [hq200, hq201]; exact q194_F12), (by rw [hq202, hq203]; exact q194_F13), q194_F14, q194_F15, q194_l, by omega⟩
   ·have p204 : Go p.tables e below _ (s₁.setTop (mkF m 31 #[.val (.ref a1), .val (.int p2), .val (.int p3), .val (.int (1 : Int32)), .val (.int (1 : Int32)), .unset] [])) := fun t_ k_ => p184 t_ (by
     refine XS.ifNo X0.here hx rfl (hb hby d36_28) rfl ((if0 _ _).trans (feq c185).1) ?_
     exact k_)
    have p205 : Go p.tables e below _ (s₁.setTop (mkF m 51 #[.val (.ref a1), .val (.int p2), .val (.int p3), .val (.int (1 : Int32)), .val (.int (1 : Int32)), .val (.int (1 : Int32))] [(.int p3), (.int (1 : Int32)), (.ref a1)])) := fun t_ k_ => p204 t_ (by
     refine XS.iconst X0.here hx rfl (hb hby d36_31) ?_
     refine XS.goto X0.here hx rfl (pc0 := 32) (pc' := 36) rfl (hb hby d36_32) (by decide) (by decide) ?_
     refine XS.istore X0.here hx rfl (hb hby d36_36) rfl (l' := #[.val (.ref a1), .val (.int p2), .val (.int p3), .val (.int (1 : Int32)), .val (.int (1 : Int32)), .val (.int (1 : Int32))]) rfl ?_
     refine XS.iload X0.here hx rfl (hb hby d36_38) rfl ?_
     refine XS.ifNo X0.here hx rfl (hb hby d36_40) rfl ((if0 _ _).trans (feq (by decide : ¬ ((1 : Int32) = (0 : Int32)))).1) ?_
     refine XS.iload X0.here hx rfl (hb hby d36_43) rfl ?_
     refine XS.ifNo X0.here hx rfl (hb hby d36_45) rfl ((if0 _ _).trans (feq (by decide : ¬ ((1 : Int32) = (0 : Int32)))).1) ?_
     refine XS.aloadN X0.here hx rfl (hb hby d36_48) rfl rfl ?_
     refine XS.iconst X0.here hx rfl (hb hby d36_49) ?_
     refine XS.iloadN X0.here hx rfl (hb hby d36_50) rfl ?_
     exact k_)
    obtain ⟨cq206, kq206, q206a, q206b, q206c⟩ := isOf hZ e0 F0
    obtain ⟨_, _, ⟨T206, L206, k206, n206⟩, -, X206, ⟨Lc206, hQ206, l206, y206, z206⟩, st206⟩ := X0.virtualBack hx (y := (⟨"com/example/arcward/arcward/solver/Domains", "remove", "(II)V"⟩ : MethodName)) (z := (⟨"com/example/arcward/arcward/solver/Domains", "remove", "(II)V"⟩ : MethodName)) hown (mvT hZ (own_w hw 313 rfl)) (mvT hZ (own_w hw 314 rfl)) (notFace_of_selects (args := #[]) (mvT hZ (own_w hw 316 rfl))) (mvT hZ (own_w hw 316 rfl)) (mvT hZ (own_w hw 315 rfl)) (by decide) (backOf (W := 0) (rm39_1 l Z a0 hw [] a1 tr bi sz rs ir w0 w1 rb ktr kbi ksz krs kir kw0 kw1 q0 q1 s0 s1 u0 u1 (0 : Int32) tvs t (0 : Int32) p3 h0 n0 (Nat.le_trans Z0 (Keep.refl h0 [a1, tr, sz, rs, ir, w0, w1]).1) F0 F1 F2 F3 F4 F5 F6 F7 F8 F9 F10 F11 F12 F13 F14 F15 ND GE (by decide) (by omega) htl hv) hZ (own_w hw 317 rfl) (own_w hw 91 rfl) (by decide) (by decide)) q206a q206c (g := (mkF m 51 #[.val (.ref a1), .val (.int p2), .val (.int p3), .val (.int (1 : Int32)), .val (.int (1 : Int32)), .val (.int (1 : Int32))] [(.int p3), (.int (1 : Int32)), (.ref a1)])) rfl (by rw [hml]; rfl) (Steps.refl _) (argsL := [(.int (1 : Int32)), (.int p3)]) (rest := []) (lenOf pd20 rfl) rfl (by show 2 * 0 + _ ≤ _; exact Nat.le_of_eq rfl) (hb hby d36_51) (fun _ _ => ⟨rfl, e0, (by decide : 0 + 0 ≤ _), (by decide : 0 + 0 ≤ _)⟩)
    dsimp only [Pt.U, Pt.locs, Pt.cells, Pt.slots] at X206 l206 y206 z206 st206 hQ206
    subst l206 y206 z206
    obtain ⟨x207, x208, x209, rfl, N206q, q206_K, q206_F0, q206_F1, q206_F2, q206_F3, q206_F4, q206_F5, q206_F6, q206_F7, q206_F8, q206_F9, q206_F10, q206_F11, q206_F12, q206_F13, q206_F14, q206_F15, q206_l⟩ := hQ206
    have N206 := Fr.app N0 N206q
    have K210 : Keep h0 T206.heap [a1, tr, sz, rs, ir, w0, w1] := (Keep.refl h0 [a1, tr, sz, rs, ir, w0, w1]).trans q206_K (allS (Or.inl (List.mem_of_getElem? (i := 0) rfl)) (allS (Or.inl (List.mem_of_getElem? (i := 1) rfl)) (allS (Or.inl (List.mem_of_getElem? (i := 2) rfl)) (allS (Or.inl (List.mem_of_getElem? (i := 3) rfl)) (allS (Or.inl (List.mem_of_getElem? (i := 4) rfl)) (allS (Or.inl (List.mem_of_getElem? (i := 6) rfl)) all0))))))
    have p211 : Go p.tables e below _ (T206.setTop (mkF m 61 #[.val (.ref a1), .val (.int p2), .val (.int p3), .val (.int (1 : Int32)), .val (.int (1 : Int32)), .val (.int (1 : Int32))] [(.int p3), (.int (0 : Int32)), (.ref a1)])) := fun t_ k_ => (gcT p205 st206) t_ (by
     refine XS.iloadN X206.here hx rfl (hb hby d36_54) rfl ?_
     refine XS.ifNo X206.here hx rfl (hb hby d36_55) rfl ((if0 _ _).trans (feq (by decide : ¬ ((1 : Int32) = (0 : Int32)))).1) ?_
     refine XS.aloadN X206.here hx rfl (hb hby d36_58) rfl rfl ?_
     refine XS.iconst X206.here hx rfl (hb hby d36_59) ?_
     refine XS.iloadN X206.here hx rfl (hb hby d36_60) rfl ?_
     exact k_)
    obtain ⟨cq212, kq212, q212a, q212b, q212c⟩ := isOf hZ rfl q206_F0
    obtain ⟨_, _, ⟨T212, L212, k212, n212⟩, -, X212, ⟨Lc212, hQ212, l212, y212, z212⟩, st212⟩ := X206.virtualBack hx (y := (⟨"com/example/arcward/arcward/solver/Domains", "remove", "(II)V"⟩ : MethodName)) (z := (⟨"com/example/arcward/arcward/solver/Domains", "remove", "(II)V"⟩ : MethodName)) hown (mvT hZ (own_w hw 313 rfl)) (mvT hZ (own_w hw 314 rfl)) (notFace_of_selects (args := #[]) (mvT hZ (own_w hw 316 rfl))) (mvT hZ (own_w hw 316 rfl)) (mvT hZ (own_w hw 315 rfl)) (by decide) (backOf (W := 0) (rm39_0 l Z a0 hw [] a1 tr bi sz rs ir w0 w1 rb ktr kbi ksz krs kir kw0 kw1 q0 x207 s0 x208 (own_m0 (0 : Int32) (1 : Int32) u0) (own_m1 (0 : Int32) (1 : Int32) u1) (1 : Int32) x209 (t + 3) ((0 : Int32) + (1 : Int32)) p3 T206.heap n0 (Nat.le_trans Z0 K210.1) q206_F0 q206_F1 q206_F2 q206_F3 q206_F4 q206_F5 q206_F6 q206_F7 q206_F8 q206_F9 q206_F10 q206_F11 q206_F12 q206_F13 q206_F14 q206_F15 ND GE (by decide) (by omega) q206_l hv) hZ (own_w hw 317 rfl) (own_w hw 91 rfl) (by decide) (by decide)) q212a q212c (g := (mkF m 61 #[.val (.ref a1), .val (.int p2), .val (.int p3), .val (.int (1 : Int32)), .val (.int (1 : Int32)), .val (.int (1 : Int32))] [(.int p3), (.int (0 : Int32)), (.ref a1)])) rfl (by rw [hml]; rfl) (Steps.refl _) (argsL := [(.int (0 : Int32)), (.int p3)]) (rest := []) (lenOf pd20 rfl) rfl (by show 2 * 0 + _ ≤ _; exact Nat.le_of_eq rfl) (hb hby d36_61) (fun _ _ => ⟨rfl, rfl, (by decide : 0 + 0 ≤ _), (by decide : 0 + 0 ≤ _)⟩)
    dsimp only [Pt.U, Pt.locs, Pt.cells, Pt.slots] at X212 l212 y212 z212 st212 hQ212
    subst l212 y212 z212
    obtain ⟨x213, x214, x215, rfl, N212q, q212_K, q212_F0, q212_F1, q212_F2, q212_F3, q212_F4, q212_F5, q212_F6, q212_F7, q212_F8, q212_F9, q212_F10, q212_F11, q212_F12, q212_F13, q212_F14, q212_F15, q212_l⟩ := hQ212
    have N212 := Fr.app N206 N212q
    have K216 : Keep h0 T212.heap [a1, tr, sz, rs, ir, w0, w1] := K210.trans q212_K (allS (Or.inl (List.mem_of_getElem? (i := 0) rfl)) (allS (Or.inl (List.mem_of_getElem? (i := 1) rfl)) (allS (Or.inl (List.mem_of_getElem? (i := 2) rfl)) (allS (Or.inl (List.mem_of_getElem? (i := 3) rfl)) (allS (Or.inl (List.mem_of_getElem? (i := 4) rfl)) (allS (Or.inl (List.mem_of_getElem? (i := 5) rfl)) all0))))))
    have p217 : Go p.tables e below _ (T212.setTop (mkF m 88 #[.val (.ref a1), .val (.int p2), .val (.int p3), .val (.int (1 : Int32)), .val (.int (1 : Int32)), .val (.int (1 : Int32))] [])) := fun t_ k_ => (gcT p211 st212) t_ (by
     refine XS.goto X212.here hx rfl (pc0 := 64) (pc' := 88) rfl (hb hby d36_64) (by decide) (by decide) ?_
     exact k_)
    have hq218 : own_rc p2 = (((0 : Int32) + (1 : Int32)) + (1 : Int32)) := by simp [own_rc, own_m0, own_m1, c102, c153, c185]
    have hq219 : own_ra p2 u0 = (own_m0 ((0 : Int32) + (1 : Int32)) (0 : Int32) (own_m0 (0 : Int32) (1 : Int32) u0)) := by simp [own_ra, own_m0, own_m1, c102, c153, c185]
    have hq220 : own_rb p2 u1 = (own_m1 ((0 : Int32) + (1 : Int32)) (0 : Int32) (own_m1 (0 : Int32) (1 : Int32) u1)) := by simp [own_rb, own_m0, own_m1, c102, c153, c185]
    have hq221 : own_e0 p2 = (1 : Int32) := by simp [own_e0, own_m0, own_m1, c102, c153, c185]
    have hq222 : own_e1 p2 = (1 : Int32) := by simp [own_e1, own_m0, own_m1, c102, c153, c185]
    obtain ⟨fs, hr, hrun, hended, hW, hsame⟩ := X212.leave (v := none) (fun _ => rfl)
    refine ⟨_, _, p217 _ (X212.returnOut hx Bd.returns (hb hby d36_88) hr), hrun, hended, _, _, rfl, ?_, ⟨_, rfl⟩, hW, hsame.mono (by decide) (by decide)⟩
    show Q36 Z a1 tr bi sz rs ir w0 w1 rb ktr kbi ksz krs kir kw0 kw1 q0 q1 s0 s1 u0 u1 tvs t p2 p3 h0 n0 _ T212.heap _
    exact ⟨x213, x207, x214, x208, x215, ((t + 3) + 3), rfl, N212, K216, q212_F0, q212_F1, q212_F2, q212_F3, q212_F4, q212_F5, q212_F6, (by rw [hq218]; exact q212_F7), q212_F8, q212_F9, q212_F10, q212_F11, (by rw [hq219, hq220]; exact q212_F12), (by rw [hq221, hq222]; exact q212_F13), q212_F14, q212_F15, q212_l, by omega⟩
theorem d37_0 : decode prog_50_method_5_code 0 = .ok (.iconst 0, 1) := by decide +kernel
theorem d37_1 : decode prog_50_method_5_code 1 = .ok (.istore_n 1, 1) := by decide +kernel
theorem d37_2 : decode prog_50_method_5_code 2 = .ok (.iload_n 1, 1) := by decide +kernel
theorem d37_3 : decode prog_50_method_5_code 3 = .ok (.aload_n 0, 1) := by decide +kernel
theorem d37_4 : decode prog_50_method_5_code 4 = .ok (.getfield 55, 3) := by decide +kernel
theorem d37_7 : decode prog_50_method_5_code 7 = .ok (.if_icmp .ge 21, 3) := by decide +kernel
theorem d37_10 : decode prog_50_method_5_code 10 = .ok (.aload_n 0, 1) := by decide +kernel
theorem d37_11 : decode prog_50_method_5_code 11 = .ok (.getfield 40, 3) := by decide +kernel
theorem d37_14 : decode prog_50_method_5_code 14 = .ok (.aload_n 0, 1) := by decide +kernel
theorem d37_15 : decode prog_50_method_5_code 15 = .ok (.getfield 37, 3) := by decide +kernel
theorem d37_18 : decode prog_50_method_5_code 18 = .ok (.iload_n 1, 1) := by decide +kernel
theorem d37_19 : decode prog_50_method_5_code 19 = .ok (.iaload, 1) := by decide +kernel
theorem d37_20 : decode prog_50_method_5_code 20 = .ok (.iconst 0, 1) := by decide +kernel
theorem d37_21 : decode prog_50_method_5_code 21 = .ok (.bastore, 1) := by decide +kernel
theorem d37_22 : decode prog_50_method_5_code 22 = .ok (.iinc 1 1, 3) := by decide +kernel
theorem d37_25 : decode prog_50_method_5_code 25 = .ok (.goto (-23), 3) := by decide +kernel
theorem d37_28 : decode prog_50_method_5_code 28 = .ok (.aload_n 0, 1) := by decide +kernel
theorem d37_29 : decode prog_50_method_5_code 29 = .ok (.iconst 0, 1) := by decide +kernel
theorem d37_30 : decode prog_50_method_5_code 30 = .ok (.putfield 55, 3) := by decide +kernel
theorem d37_33 : decode prog_50_method_5_code 33 = .ok (.return_, 1) := by decide +kernel
theorem pn37 : plainFor (⟨"com/example/arcward/arcward/solver/Domains", "clearResized", "()V"⟩ : MethodName) = true := plainFor_of_name (by first | (simp [plainName, overriddenIn]; done) | decide +kernel)
theorem ef_rm37 (m : MethodId) (a1 : Addr) (tr : Addr) (bi : Addr) (sz : Addr) (rs : Addr) (ir : Addr) (w0 : Addr) (w1 : Addr) (rb : Addr) (krs : ClassId) (kir : ClassId) (tl : Int32) (rc : Int32) (u0 : Int32) (u1 : Int32) (eb0 : Int32) (eb1 : Int32) : entryFrame m #[(.ref a1)] 2 = mkF m 0 #[.val (.ref a1), .unset] [] := by first | (simp [entryFrame, mkF, argsToLocals, Value.category]; done) | rfl
def Q37 (Z : State) (a1 : Addr) (tr : Addr) (bi : Addr) (sz : Addr) (rs : Addr) (ir : Addr) (w0 : Addr) (w1 : Addr) (rb : Addr) (krs : ClassId) (kir : ClassId) (tl : Int32) (rc : Int32) (u0 : Int32) (u1 : Int32) (eb0 : Int32) (eb1 : Int32) (h0 : Heap) (n0 : Nat) (v : Option Value) (h : Heap) (L : List Loc) : Prop := v = none ∧ Fr n0 L ∧ (Keep h0 h [a1, ir]) ∧ (Exa Z h a1 "com/example/arcward/arcward/solver/Domains") ∧ (Fld Z h a1 "com/example/arcward/arcward/solver/Domains" "trail" "[I" (.ref tr)) ∧ (Fld Z h a1 "com/example/arcward/arcward/solver/Domains" "removedBy" "[I" (.ref rb)) ∧ (Fld Z h a1 "com/example/arcward/arcward/solver/Domains" "bits" "[[J" (.ref bi)) ∧ (Fld Z h a1 "com/example/arcward/arcward/solver/Domains" "sizes" "[I" (.ref sz)) ∧ (Fld Z h a1 "com/example/arcward/arcward/solver/Domains" "resized" "[I" (.ref rs)) ∧ (Fld Z h a1 "com/example/arcward/arcward/solver/Domains" "inResized" "[Z" (.ref ir)) ∧ (Fld Z h a1 "com/example/arcward/arcward/solver/Domains" "resizedCount" "I" (.int (0 : Int32))) ∧ (Fld Z h a1 "com/example/arcward/arcward/solver/Domains" "trailLength" "I" (.int tl)) ∧ (Arv Z h rs krs .int (2 : Int32) [(.int u0), (.int u1)] (.int (0 : Int32))) ∧ (Arv Z h ir kir .boolean (2 : Int32) [(.int (0 : Int32)), (.int (0 : Int32))] (.int (0 : Int32)))
set_option maxRecDepth 65536 in
set_option maxHeartbeats 40000000 in
theorem rm37 (l : Launch) (Z : State) (a0 : Array Value) (hw : ∀ d ∈ tables_1, d.before a0 Z = true) (ws : List Jvm.Cond) (a1 : Addr) (tr : Addr) (bi : Addr) (sz : Addr) (rs : Addr) (ir : Addr) (w0 : Addr) (w1 : Addr) (rb : Addr) (krs : ClassId) (kir : ClassId) (tl : Int32) (rc : Int32) (u0 : Int32) (u1 : Int32) (eb0 : Int32) (eb1 : Int32) (h0 : Heap) (n0 : Nat) (Z0 : n0 ≤ h0.size) (F0 : Exa Z h0 a1 "com/example/arcward/arcward/solver/Domains") (F1 : Fld Z h0 a1 "com/example/arcward/arcward/solver/Domains" "trail" "[I" (.ref tr)) (F2 : Fld Z h0 a1 "com/example/arcward/arcward/solver/Domains" "removedBy" "[I" (.ref rb)) (F3 : Fld Z h0 a1 "com/example/arcward/arcward/solver/Domains" "bits" "[[J" (.ref bi)) (F4 : Fld Z h0 a1 "com/example/arcward/arcward/solver/Domains" "sizes" "[I" (.ref sz)) (F5 : Fld Z h0 a1 "com/example/arcward/arcward/solver/Domains" "resized" "[I" (.ref rs)) (F6 : Fld Z h0 a1 "com/example/arcward/arcward/solver/Domains" "inResized" "[Z" (.ref ir)) (F7 : Fld Z h0 a1 "com/example/arcward/arcward/solver/Domains" "resizedCount" "I" (.int rc)) (F8 : Fld Z h0 a1 "com/example/arcward/arcward/solver/Domains" "trailLength" "I" (.int tl)) (F9 : Arv Z h0 rs krs .int (2 : Int32) [(.int u0), (.int u1)] (.int (0 : Int32))) (F10 : Arv Z h0 ir kir .boolean (2 : Int32) [(.int eb0), (.int eb1)] (.int (0 : Int32))) (ND : own_ND a1 tr bi sz rs ir w0 w1) (GE : own_GE n0 a1 tr bi sz rs ir w0 w1) (HR : own_R rc u0 u1 eb0 eb1) :
  MetFree l (⟨"com/example/arcward/arcward/solver/Domains", "clearResized", "()V"⟩ : MethodName) (head1 (Jvm.Cond.code (⟨"com/example/arcward/arcward/solver/Domains", "clearResized", "()V"⟩ : MethodName) prog_50_method_5_code 2 none :: ws) ({ frames := 0, cells := 0, slots := 0, locals := 0 } : Room)) (fun a U => a = #[(.ref a1)] ∧ Z.Warmed39 U.vm ∧ U.heap = h0) (fun _ _ _ _ _ => True) (fun _ U o U' => ∃ v L, o = .returned v ∧ Q37 Z a1 tr bi sz rs ir w0 w1 rb krs kir tl rc u0 u1 eb0 eb1 h0 n0 v U'.heap L ∧ FrameEnd U o U' L ({ frames := 0, cells := 0, slots := 0, locals := 0 } : Room).cells ({ frames := 0, cells := 0, slots := 0, locals := 0 } : Room).slots) := by
 refine MetFree.of_bodySF pn37 hisR ?_
 intro p e s m args below meth c s₁ Bd hml0 hP hK
 obtain ⟨rfl, hZ, hh⟩ := hP
 have hx := Bd.exec
 have hby := Bd.bytes
 have hml : c.maxLocals = 2 := hml0
 have hown : s.vm.findClass "com/example/arcward/arcward/solver/Domains" = some m.cls := findClass_of_methodNamed Bd.named
 have hnm := (name_of_methodNamed Bd.named Bd.method).1
 have X0 : Stand p l e ({ frames := 0, cells := 0, slots := 0, locals := 0 } : Room) s m #[(.ref a1)] below meth c s₁ [] 0 0 := Stand.of_body Bd
 have e0 : s₁.heap = h0 := by rw [← hh, Bd.state]; rfl
 have N0 := Fr.nil n0
 have p0 : Go p.tables e below (s₁.setTop (entryFrame m #[(.ref a1)] 2)) (s₁.setTop (mkF m 0 #[.val (.ref a1), .unset] [])) := fun t_ k_ => castTop (ef_rm37 m a1 tr bi sz rs ir w0 w1 rb krs kir tl rc u0 u1 eb0 eb1) k_
 rcases id HR with ⟨r1, r2, r3⟩ | ⟨r1, r2, r3⟩ | ⟨r1, r2, r3⟩ | ⟨r1, r2, r3⟩ | ⟨r1, r2, r3⟩
 ·have G7 : Fld Z h0 a1 "com/example/arcward/arcward/solver/Domains" "resizedCount" "I" (.int (0 : Int32)) := by rw [← r1]; exact F7
  have Gir : Arv Z h0 ir kir .boolean (2 : Int32) [(.int (0 : Int32)), (.int (0 : Int32))] (.int (0 : Int32)) := by have z := F10; rw [r2, r3] at z; exact z
  have p101 : Go p.tables e below _ (s₁.setTop (mkF m 4 #[.val (.ref a1), .val (.int (0 : Int32))] [(.ref a1), (.int (0 : Int32))])) := fun t_ k_ => p0 t_ (by
   refine XS.iconst X0.here hx rfl (hb hby d37_0) ?_
   refine XS.istoreN X0.here hx rfl (hb hby d37_1) rfl (l' := #[.val (.ref a1), .val (.int (0 : Int32))]) rfl ?_
   refine XS.iloadN X0.here hx rfl (hb hby d37_2) rfl ?_
   refine XS.aloadN X0.here hx rfl (hb hby d37_3) rfl rfl ?_
   exact k_)
  obtain ⟨T102, X102, e102, st102⟩ := getF X0 hx hZ hown (host := "") (Or.inl (own_w hw 306 rfl)) Via.refl e0 G7 (g := (mkF m 4 #[.val (.ref a1), .val (.int (0 : Int32))] [(.ref a1), (.int (0 : Int32))])) rfl rfl (hb hby d37_4)
  have p103 : Go p.tables e below _ (T102.setTop (mkF m 30 #[.val (.ref a1), .val (.int (0 : Int32))] [(.int (0 : Int32)), (.ref a1)])) := fun t_ k_ => (gc p101 st102) t_ (by
   refine XS.icmpYes X102.here hx rfl (pc0 := 7) (pc' := 28) rfl (hb hby d37_7) rfl (flt (by decide : ¬ ((0 : Int32) < (0 : Int32)))).2.1 (by decide) (by decide) ?_
   refine XS.aloadN X102.here hx rfl (hb hby d37_28) rfl rfl ?_
   refine XS.iconst X102.here hx rfl (hb hby d37_29) ?_
   exact k_)
  obtain ⟨T104, h104, X104, e104, W104, st104⟩ := putF X102 hx hZ hown (host := "") (Or.inl (own_w hw 306 rfl)) Via.refl e102 G7 F0 (Or.inl (own_w hw 307 rfl)) (own_w hw 90 rfl) (ty := .int) (by decide) rfl rfl (g := (mkF m 30 #[.val (.ref a1), .val (.int (0 : Int32))] [(.int (0 : Int32)), (.ref a1)])) rfl rfl (hb hby d37_30)
  have K105 : Keep h0 h104 [a1, ir] := (Keep.refl h0 [a1, ir]).wr W104 (Or.inl (List.mem_of_getElem? (i := 0) rfl))
  have N104 := Fr.snoc X104 N0 GE.1
  have F104 : Fld Z h104 a1 "com/example/arcward/arcward/solver/Domains" "resizedCount" "I" (.int (0 : Int32)) := G7.same W104
  have f106 := (F0.wr W104)
  have f107 := (F1.other W104 (Or.inr (slot_ne (Or.inl (own_w hw 265 rfl)) (Or.inl (own_w hw 307 rfl)) (by decide) (t := (.array .int)) (t' := .int) (by decide) (by decide))))
  have f108 := (F2.other W104 (Or.inr (slot_ne (Or.inr (own_w hw 267 rfl)) (Or.inl (own_w hw 307 rfl)) (by decide) (t := (.array .int)) (t' := .int) (by decide) (by decide))))
  have f109 := (F3.other W104 (Or.inr (slot_ne (Or.inr (own_w hw 277 rfl)) (Or.inl (own_w hw 307 rfl)) (by decide) (t := (.array (.array .long))) (t' := .int) (by decide) (by decide))))
  have f110 := (F4.other W104 (Or.inr (slot_ne (Or.inr (own_w hw 279 rfl)) (Or.inl (own_w hw 307 rfl)) (by decide) (t := (.array .int)) (t' := .int) (by decide) (by decide))))
  have f111 := (F5.other W104 (Or.inr (slot_ne (Or.inr (own_w hw 281 rfl)) (Or.inl (own_w hw 307 rfl)) (by decide) (t := (.array .int)) (t' := .int) (by decide) (by decide))))
  have f112 := (F6.other W104 (Or.inr (slot_ne (Or.inr (own_w hw 284 rfl)) (Or.inl (own_w hw 307 rfl)) (by decide) (t := (.array .boolean)) (t' := .int) (by decide) (by decide))))
  have f113 := (F8.other W104 (Or.inr (slot_ne (Or.inl (own_w hw 329 rfl)) (Or.inl (own_w hw 307 rfl)) (by decide) (t := .int) (t' := .int) (by decide) (by decide))))
  have f114 := (F9.other W104 (Ne.symm ND.2.2.2.1))
  have f115 := (Gir.other W104 (Ne.symm ND.2.2.2.2.1))
  obtain ⟨fs, hr, hrun, hended, hW, hsame⟩ := X104.leave (v := none) (fun _ => rfl)
  refine ⟨_, _, (gc p103 st104) _ (X104.returnOut hx Bd.returns (hb hby d37_33) hr), hrun, hended, _, _, rfl, ?_, ⟨_, rfl⟩, hW, hsame.mono (by decide) (by decide)⟩
  show Q37 Z a1 tr bi sz rs ir w0 w1 rb krs kir tl rc u0 u1 eb0 eb1 h0 n0 _ T104.heap _
  rw [e104]
  exact ⟨rfl, N104, K105, f106, f107, f108, f109, f110, f111, f112, F104, f113, f114, f115⟩
 ·have G7 : Fld Z h0 a1 "com/example/arcward/arcward/solver/Domains" "resizedCount" "I" (.int (1 : Int32)) := by rw [← r1]; exact F7
  have Grs : Arv Z h0 rs krs .int (2 : Int32) [(.int (0 : Int32)), (.int u1)] (.int (0 : Int32)) := by have z := F9; rw [r2] at z; exact z
  have Gir : Arv Z h0 ir kir .boolean (2 : Int32) [(.int eb0), (.int (0 : Int32))] (.int (0 : Int32)) := by have z := F10; rw [r3] at z; exact z
  have p116 : Go p.tables e below _ (s₁.setTop (mkF m 4 #[.val (.ref a1), .val (.int (0 : Int32))] [(.ref a1), (.int (0 : Int32))])) := fun t_ k_ => p0 t_ (by
   refine XS.iconst X0.here hx rfl (hb hby d37_0) ?_
   refine XS.istoreN X0.here hx rfl (hb hby d37_1) rfl (l' := #[.val (.ref a1), .val (.int (0 : Int32))]) rfl ?_
   refine XS.iloadN X0.here hx rfl (hb hby d37_2) rfl ?_
   refine XS.aloadN X0.here hx rfl (hb hby d37_3) rfl rfl ?_
   exact k_)
  obtain ⟨T117, X117, e117, st117⟩ := getF X0 hx hZ hown (host := "") (Or.inl (own_w hw 306 rfl)) Via.refl e0 G7 (g := (mkF m 4 #[.val (.ref a1), .val (.int (0 : Int32))] [(.ref a1), (.int (0 : Int32))])) rfl rfl (hb hby d37_4)
  have p118 : Go p.tables e below _ (T117.setTop (mkF m 11 #[.val (.ref a1), .val (.int (0 : Int32))] [(.ref a1)])) := fun t_ k_ => (gc p116 st117) t_ (by
   refine XS.icmpNo X117.here hx rfl (hb hby d37_7) rfl (tlt (by decide : ((0 : Int32) < (1 : Int32)))).2.1 ?_
   refine XS.aloadN X117.here hx rfl (hb hby d37_10) rfl rfl ?_
   exact k_)
  obtain ⟨T119, X119, e119, st119⟩ := getF X117 hx hZ hown (host := "") (Or.inl (own_w hw 283 rfl)) Via.refl e117 F6 (g := (mkF m 11 #[.val (.ref a1), .val (.int (0 : Int32))] [(.ref a1)])) rfl rfl (hb hby d37_11)
  have p120 : Go p.tables e below _ (T119.setTop (mkF m 15 #[.val (.ref a1), .val (.int (0 : Int32))] [(.ref a1), (.ref ir)])) := fun t_ k_ => (gc p118 st119) t_ (by
   refine XS.aloadN X119.here hx rfl (hb hby d37_14) rfl rfl ?_
   exact k_)
  obtain ⟨T121, X121, e121, st121⟩ := getF X119 hx hZ hown (host := "") (Or.inl (own_w hw 280 rfl)) Via.refl e119 F5 (g := (mkF m 15 #[.val (.ref a1), .val (.int (0 : Int32))] [(.ref a1), (.ref ir)])) rfl rfl (hb hby d37_15)
  have p122 : Go p.tables e below _ (T121.setTop (mkF m 19 #[.val (.ref a1), .val (.int (0 : Int32))] [(.int (0 : Int32)), (.ref rs), (.ref ir)])) := fun t_ k_ => (gc p120 st121) t_ (by
   refine XS.iloadN X121.here hx rfl (hb hby d37_18) rfl ?_
   exact k_)
  obtain ⟨cl123, Ar123, q123, S123, Ng123, H123, G123⟩ := id Grs
  have hin123 := inb_of S123 (j := (0 : Int32)) ⟨by decide, by decide⟩
  have hat123 := H123.at (v := (.int (0 : Int32))) hin123 rfl
  have p124 : Go p.tables e below _ (T121.setTop (mkF m 21 #[.val (.ref a1), .val (.int (0 : Int32))] [(.int (0 : Int32)), (.int (0 : Int32)), (.ref ir)])) := fun t_ k_ => p122 t_ (by
   refine X121.iaload hx (j := (0 : Int32)) (v := (.int (0 : Int32))) (by rw [e121]; exact Ar123.1) (State.isArrayOf_alike hZ.alike Ar123.2.1) Ar123.2.2 hin123 hat123 (g := (mkF m 19 #[.val (.ref a1), .val (.int (0 : Int32))] [(.int (0 : Int32)), (.ref rs), (.ref ir)])) rfl rfl (hb hby d37_19) _ ?_
   refine XS.iconst X121.here hx rfl (hb hby d37_20) ?_
   exact k_)
  obtain ⟨cl125, Ar125, q125, S125, Ng125, H125, G125⟩ := id Gir
  have hin125 := inb_of S125 (j := (0 : Int32)) ⟨by decide, by decide⟩
  obtain ⟨T125, h125, X125, e125, W125, st125⟩ := stZ X121 hx hZ e121 Ar125 (j := (0 : Int32)) hin125 (g := (mkF m 21 #[.val (.ref a1), .val (.int (0 : Int32))] [(.int (0 : Int32)), (.int (0 : Int32)), (.ref ir)])) rfl rfl (hb hby d37_21)
  have K126 : Keep h0 h125 [a1, ir] := (Keep.refl h0 [a1, ir]).wr W125 (Or.inl (List.mem_of_getElem? (i := 1) rfl))
  have N125 := Fr.snoc X125 N0 GE.2.2.2.2.2.1
  have V125 : Arv Z h125 ir kir .boolean (2 : Int32) [(.int (0 : Int32)), (.int (0 : Int32))] (.int (0 : Int32)) := Arv.set Ar125 q125 S125 Ng125 H125 G125 (by decide) W125 0 rfl (Nat.le_of_ble_eq_true rfl)
  have p127 : Go p.tables e below _ (T125.setTop (mkF m 4 #[.val (.ref a1), .val (.int (1 : Int32))] [(.ref a1), (.int (1 : Int32))])) := fun t_ k_ => (gc p124 st125) t_ (by
   refine XS.iinc X125.here hx rfl (hb hby d37_22) rfl (l' := #[.val (.ref a1), .val (.int (1 : Int32))]) rfl ?_
   refine XS.goto X125.here hx rfl (pc0 := 25) (pc' := 2) rfl (hb hby d37_25) (by decide) (by decide) ?_
   refine XS.iloadN X125.here hx rfl (hb hby d37_2) rfl ?_
   refine XS.aloadN X125.here hx rfl (hb hby d37_3) rfl rfl ?_
   exact k_)
  have f128 := (G7.other W125 (Or.inl ND.2.2.2.2.1))
  obtain ⟨T129, X129, e129, st129⟩ := getF X125 hx hZ hown (host := "") (Or.inl (own_w hw 306 rfl)) Via.refl e125 f128 (g := (mkF m 4 #[.val (.ref a1), .val (.int (1 : Int32))] [(.ref a1), (.int (1 : Int32))])) rfl rfl (hb hby d37_4)
  have p130 : Go p.tables e below _ (T129.setTop (mkF m 30 #[.val (.ref a1), .val (.int (1 : Int32))] [(.int (0 : Int32)), (.ref a1)])) := fun t_ k_ => (gc p127 st129) t_ (by
   refine XS.icmpYes X129.here hx rfl (pc0 := 7) (pc' := 28) rfl (hb hby d37_7) rfl (flt (by decide : ¬ ((1 : Int32) < (1 : Int32)))).2.1 (by decide) (by decide) ?_
   refine XS.aloadN X129.here hx rfl (hb hby d37_28) rfl rfl ?_
   refine XS.iconst X129.here hx rfl (hb hby d37_29) ?_
   exact k_)
  have f131 := (F0.wr W125)
  obtain ⟨T132, h132, X132, e132, W132, st132⟩ := putF X129 hx hZ hown (host := "") (Or.inl (own_w hw 306 rfl)) Via.refl e129 f128 f131 (Or.inl (own_w hw 307 rfl)) (own_w hw 90 rfl) (ty := .int) (by decide) rfl rfl (g := (mkF m 30 #[.val (.ref a1), .val (.int (1 : Int32))] [(.int (0 : Int32)), (.ref a1)])) rfl rfl (hb hby d37_30)
  have K133 : Keep h0 h132 [a1, ir] := K126.wr W132 (Or.inl (List.mem_of_getElem? (i := 0) rfl))
  have N132 := Fr.snoc X132 N125 GE.1
  have F132 : Fld Z h132 a1 "com/example/arcward/arcward/solver/Domains" "resizedCount" "I" (.int (0 : Int32)) := f128.same W132
  have f134 := (f131.wr W132)
  have f135 := ((F1.other W125 (Or.inl ND.2.2.2.2.1)).other W132 (Or.inr (slot_ne (Or.inl (own_w hw 265 rfl)) (Or.inl (own_w hw 307 rfl)) (by decide) (t := (.array .int)) (t' := .int) (by decide) (by decide))))
  have f136 := ((F2.other W125 (Or.inl ND.2.2.2.2.1)).other W132 (Or.inr (slot_ne (Or.inr (own_w hw 267 rfl)) (Or.inl (own_w hw 307 rfl)) (by decide) (t := (.array .int)) (t' := .int) (by decide) (by decide))))
  have f137 := ((F3.other W125 (Or.inl ND.2.2.2.2.1)).other W132 (Or.inr (slot_ne (Or.inr (own_w hw 277 rfl)) (Or.inl (own_w hw 307 rfl)) (by decide) (t := (.array (.array .long))) (t' := .int) (by decide) (by decide))))
  have f138 := ((F4.other W125 (Or.inl ND.2.2.2.2.1)).other W132 (Or.inr (slot_ne (Or.inr (own_w hw 279 rfl)) (Or.inl (own_w hw 307 rfl)) (by decide) (t := (.array .int)) (t' := .int) (by decide) (by decide))))
  have f139 := ((F5.other W125 (Or.inl ND.2.2.2.2.1)).other W132 (Or.inr (slot_ne (Or.inr (own_w hw 281 rfl)) (Or.inl (own_w hw 307 rfl)) (by decide) (t := (.array .int)) (t' := .int) (by decide) (by decide))))
  have f140 := ((F6.other W125 (Or.inl ND.2.2.2.2.1)).other W132 (Or.inr (slot_ne (Or.inr (own_w hw 284 rfl)) (Or.inl (own_w hw 307 rfl)) (by decide) (t := (.array .boolean)) (t' := .int) (by decide) (by decide))))
  have f141 := ((F8.other W125 (Or.inl ND.2.2.2.2.1)).other W132 (Or.inr (slot_ne (Or.inl (own_w hw 329 rfl)) (Or.inl (own_w hw 307 rfl)) (by decide) (t := .int) (t' := .int) (by decide) (by decide))))
  have f142 := ((Grs.other W125 ND.2.2.2.2.2.2.2.2.2.2.2.2.2.2.2.2.2.2.2.2.2.2.1).other W132 (Ne.symm ND.2.2.2.1))
  have f143 := (V125.other W132 (Ne.symm ND.2.2.2.2.1))
  obtain ⟨fs, hr, hrun, hended, hW, hsame⟩ := X132.leave (v := none) (fun _ => rfl)
  refine ⟨_, _, (gc p130 st132) _ (X132.returnOut hx Bd.returns (hb hby d37_33) hr), hrun, hended, _, _, rfl, ?_, ⟨_, rfl⟩, hW, hsame.mono (by decide) (by decide)⟩
  show Q37 Z a1 tr bi sz rs ir w0 w1 rb krs kir tl rc u0 u1 eb0 eb1 h0 n0 _ T132.heap _
  rw [e132]
  exact ⟨rfl, N132, K133, f134, f135, f136, f137, f138, f139, f140, F132, f141, (by rw [r2]; exact f142), f143⟩
 ·have G7 : Fld Z h0 a1 "com/example/arcward/arcward/solver/Domains" "resizedCount" "I" (.int (1 : Int32)) := by rw [← r1]; exact F7
  have Grs : Arv Z h0 rs krs .int (2 : Int32) [(.int (1 : Int32)), (.int u1)] (.int (0 : Int32)) := by have z := F9; rw [r2] at z; exact z
  have Gir : Arv Z h0 ir kir .boolean (2 : Int32) [(.int (0 : Int32)), (.int eb1)] (.int (0 : Int32)) := by have z := F10; rw [r3] at z; exact z
  have p144 : Go p.tables e below _ (s₁.setTop (mkF m 4 #[.val (.ref a1), .val (.int (0 : Int32))] [(.ref a1), (.int (0 : Int32))])) := fun t_ k_ => p0 t_ (by
   refine XS.iconst X0.here hx rfl (hb hby d37_0) ?_
   refine XS.istoreN X0.here hx rfl (hb hby d37_1) rfl (l' := #[.val (.ref a1), .val (.int (0 : Int32))]) rfl ?_
   refine XS.iloadN X0.here hx rfl (hb hby d37_2) rfl ?_
   refine XS.aloadN X0.here hx rfl (hb hby d37_3) rfl rfl ?_
   exact k_)
  obtain ⟨T145, X145, e145, st145⟩ := getF X0 hx hZ hown (host := "") (Or.inl (own_w hw 306 rfl)) Via.refl e0 G7 (g := (mkF m 4 #[.val (.ref a1), .val (.int (0 : Int32))] [(.ref a1), (.int (0 : Int32))])) rfl rfl (hb hby d37_4)
  have p146 : Go p.tables e below _ (T145.setTop (mkF m 11 #[.val (.ref a1), .val (.int (0 : Int32))] [(.ref a1)])) := fun t_ k_ => (gc p144 st145) t_ (by
   refine XS.icmpNo X145.here hx rfl (hb hby d37_7) rfl (tlt (by decide : ((0 : Int32) < (1 : Int32)))).2.1 ?_
   refine XS.aloadN X145.here hx rfl (hb hby d37_10) rfl rfl ?_
   exact k_)
  obtain ⟨T147, X147, e147, st147⟩ := getF X145 hx hZ hown (host := "") (Or.inl (own_w hw 283 rfl)) Via.refl e145 F6 (g := (mkF m 11 #[.val (.ref a1), .val (.int (0 : Int32))] [(.ref a1)])) rfl rfl (hb hby d37_11)
  have p148 : Go p.tables e below _ (T147.setTop (mkF m 15 #[.val (.ref a1), .val (.int (0 : Int32))] [(.ref a1), (.ref ir)])) := fun t_ k_ => (gc p146 st147) t_ (by
   refine XS.aloadN X147.here hx rfl (hb hby d37_14) rfl rfl ?_
   exact k_)
  obtain ⟨T149, X149, e149, st149⟩ := getF X147 hx hZ hown (host := "") (Or.inl (own_w hw 280 rfl)) Via.refl e147 F5 (g := (mkF m 15 #[.val (.ref a1), .val (.int (0 : Int32))] [(.ref a1), (.ref ir)])) rfl rfl (hb hby d37_15)
  have p150 : Go p.tables e below _ (T149.setTop (mkF m 19 #[.val (.ref a1), .val (.int (0 : Int32))] [(.int (0 : Int32)), (.ref rs), (.ref ir)])) := fun t_ k_ => (gc p148 st149) t_ (by
   refine XS.iloadN X149.here hx rfl (hb hby d37_18) rfl ?_
   exact k_)
  obtain ⟨cl151, Ar151, q151, S151, Ng151, H151, G151⟩ := id Grs
  have hin151 := inb_of S151 (j := (0 : Int32)) ⟨by decide, by decide⟩
  have hat151 := H151.at (v := (.int (1 : Int32))) hin151 rfl
  have p152 : Go p.tables e below _ (T149.setTop (mkF m 21 #[.val (.ref a1), .val (.int (0 : Int32))] [(.int (0 : Int32)), (.int (1 : Int32)), (.ref ir)])) := fun t_ k_ => p150 t_ (by
   refine X149.iaload hx (j := (0 : Int32)) (v := (.int (1 : Int32))) (by rw [e149]; exact Ar151.1) (State.isArrayOf_alike hZ.alike Ar151.2.1) Ar151.2.2 hin151 hat151 (g := (mkF m 19 #[.val (.ref a1), .val (.int (0 : Int32))] [(.int (0 : Int32)), (.ref rs), (.ref ir)])) rfl rfl (hb hby d37_19) _ ?_
   refine XS.iconst X149.here hx rfl (hb hby d37_20) ?_
   exact k_)
  obtain ⟨cl153, Ar153, q153, S153, Ng153, H153, G153⟩ := id Gir
  have hin153 := inb_of S153 (j := (1 : Int32)) ⟨by decide, by decide⟩
  obtain ⟨T153, h153, X153, e153, W153, st153⟩ := stZ X149 hx hZ e149 Ar153 (j := (1 : Int32)) hin153 (g := (mkF m 21 #[.val (.ref a1), .val (.int (0 : Int32))] [(.int (0 : Int32)), (.int (1 : Int32)), (.ref ir)])) rfl rfl (hb hby d37_21)
  have K154 : Keep h0 h153 [a1, ir] := (Keep.refl h0 [a1, ir]).wr W153 (Or.inl (List.mem_of_getElem? (i := 1) rfl))
  have N153 := Fr.snoc X153 N0 GE.2.2.2.2.2.1
  have V153 : Arv Z h153 ir kir .boolean (2 : Int32) [(.int (0 : Int32)), (.int (0 : Int32))] (.int (0 : Int32)) := Arv.set Ar153 q153 S153 Ng153 H153 G153 (by decide) W153 1 rfl (Nat.le_of_ble_eq_true rfl)
  have p155 : Go p.tables e below _ (T153.setTop (mkF m 4 #[.val (.ref a1), .val (.int (1 : Int32))] [(.ref a1), (.int (1 : Int32))])) := fun t_ k_ => (gc p152 st153) t_ (by
   refine XS.iinc X153.here hx rfl (hb hby d37_22) rfl (l' := #[.val (.ref a1), .val (.int (1 : Int32))]) rfl ?_
   refine XS.goto X153.here hx rfl (pc0 := 25) (pc' := 2) rfl (hb hby d37_25) (by decide) (by decide) ?_
   refine XS.iloadN X153.here hx rfl (hb hby d37_2) rfl ?_
   refine XS.aloadN X153.here hx rfl (hb hby d37_3) rfl rfl ?_
   exact k_)
  have f156 := (G7.other W153 (Or.inl ND.2.2.2.2.1))
  obtain ⟨T157, X157, e157, st157⟩ := getF X153 hx hZ hown (host := "") (Or.inl (own_w hw 306 rfl)) Via.refl e153 f156 (g := (mkF m 4 #[.val (.ref a1), .val (.int (1 : Int32))] [(.ref a1), (.int (1 : Int32))])) rfl rfl (hb hby d37_4)
  have p158 : Go p.tables e below _ (T157.setTop (mkF m 30 #[.val (.ref a1), .val (.int (1 : Int32))] [(.int (0 : Int32)), (.ref a1)])) := fun t_ k_ => (gc p155 st157) t_ (by
   refine XS.icmpYes X157.here hx rfl (pc0 := 7) (pc' := 28) rfl (hb hby d37_7) rfl (flt (by decide : ¬ ((1 : Int32) < (1 : Int32)))).2.1 (by decide) (by decide) ?_
   refine XS.aloadN X157.here hx rfl (hb hby d37_28) rfl rfl ?_
   refine XS.iconst X157.here hx rfl (hb hby d37_29) ?_
   exact k_)
  have f159 := (F0.wr W153)
  obtain ⟨T160, h160, X160, e160, W160, st160⟩ := putF X157 hx hZ hown (host := "") (Or.inl (own_w hw 306 rfl)) Via.refl e157 f156 f159 (Or.inl (own_w hw 307 rfl)) (own_w hw 90 rfl) (ty := .int) (by decide) rfl rfl (g := (mkF m 30 #[.val (.ref a1), .val (.int (1 : Int32))] [(.int (0 : Int32)), (.ref a1)])) rfl rfl (hb hby d37_30)
  have K161 : Keep h0 h160 [a1, ir] := K154.wr W160 (Or.inl (List.mem_of_getElem? (i := 0) rfl))
  have N160 := Fr.snoc X160 N153 GE.1
  have F160 : Fld Z h160 a1 "com/example/arcward/arcward/solver/Domains" "resizedCount" "I" (.int (0 : Int32)) := f156.same W160
  have f162 := (f159.wr W160)
  have f163 := ((F1.other W153 (Or.inl ND.2.2.2.2.1)).other W160 (Or.inr (slot_ne (Or.inl (own_w hw 265 rfl)) (Or.inl (own_w hw 307 rfl)) (by decide) (t := (.array .int)) (t' := .int) (by decide) (by decide))))
  have f164 := ((F2.other W153 (Or.inl ND.2.2.2.2.1)).other W160 (Or.inr (slot_ne (Or.inr (own_w hw 267 rfl)) (Or.inl (own_w hw 307 rfl)) (by decide) (t := (.array .int)) (t' := .int) (by decide) (by decide))))
  have f165 := ((F3.other W153 (Or.inl ND.2.2.2.2.1)).other W160 (Or.inr (slot_ne (Or.inr (own_w hw 277 rfl)) (Or.inl (own_w hw 307 rfl)) (by decide) (t := (.array (.array .long))) (t' := .int) (by decide) (by decide))))
  have f166 := ((F4.other W153 (Or.inl ND.2.2.2.2.1)).other W160 (Or.inr (slot_ne (Or.inr (own_w hw 279 rfl)) (Or.inl (own_w hw 307 rfl)) (by decide) (t := (.array .int)) (t' := .int) (by decide) (by decide))))
  have f167 := ((F5.other W153 (Or.inl ND.2.2.2.2.1)).other W160 (Or.inr (slot_ne (Or.inr (own_w hw 281 rfl)) (Or.inl (own_w hw 307 rfl)) (by decide) (t := (.array .int)) (t' := .int) (by decide) (by decide))))
  have f168 := ((F6.other W153 (Or.inl ND.2.2.2.2.1)).other W160 (Or.inr (slot_ne (Or.inr (own_w hw 284 rfl)) (Or.inl (own_w hw 307 rfl)) (by decide) (t := (.array .boolean)) (t' := .int) (by decide) (by decide))))
  have f169 := ((F8.other W153 (Or.inl ND.2.2.2.2.1)).other W160 (Or.inr (slot_ne (Or.inl (own_w hw 329 rfl)) (Or.inl (own_w hw 307 rfl)) (by decide) (t := .int) (t' := .int) (by decide) (by decide))))
  have f170 := ((Grs.other W153 ND.2.2.2.2.2.2.2.2.2.2.2.2.2.2.2.2.2.2.2.2.2.2.1).other W160 (Ne.symm ND.2.2.2.1))
  have f171 := (V153.other W160 (Ne.symm ND.2.2.2.2.1))
  obtain ⟨fs, hr, hrun, hended, hW, hsame⟩ := X160.leave (v := none) (fun _ => rfl)
  refine ⟨_, _, (gc p158 st160) _ (X160.returnOut hx Bd.returns (hb hby d37_33) hr), hrun, hended, _, _, rfl, ?_, ⟨_, rfl⟩, hW, hsame.mono (by decide) (by decide)⟩
  show Q37 Z a1 tr bi sz rs ir w0 w1 rb krs kir tl rc u0 u1 eb0 eb1 h0 n0 _ T160.heap _
  rw [e160]
  exact ⟨rfl, N160, K161, f162, f163, f164, f165, f166, f167, f168, F160, f169, (by rw [r2]; exact f170), f171⟩
 ·have G7 : Fld Z h0 a1 "com/example/arcward/arcward/solver/Domains" "resizedCount" "I" (.int (2 : Int32)) := by rw [← r1]; exact F7
  have Grs : Arv Z h0 rs krs .int (2 : Int32) [(.int (0 : Int32)), (.int (1 : Int32))] (.int (0 : Int32)) := by have z := F9; rw [r2, r3] at z; exact z
  have p172 : Go p.tables e below _ (s₁.setTop (mkF m 4 #[.val (.ref a1), .val (.int (0 : Int32))] [(.ref a1), (.int (0 : Int32))])) := fun t_ k_ => p0 t_ (by
   refine XS.iconst X0.here hx rfl (hb hby d37_0) ?_
   refine XS.istoreN X0.here hx rfl (hb hby d37_1) rfl (l' := #[.val (.ref a1), .val (.int (0 : Int32))]) rfl ?_
   refine XS.iloadN X0.here hx rfl (hb hby d37_2) rfl ?_
   refine XS.aloadN X0.here hx rfl (hb hby d37_3) rfl rfl ?_
   exact k_)
  obtain ⟨T173, X173, e173, st173⟩ := getF X0 hx hZ hown (host := "") (Or.inl (own_w hw 306 rfl)) Via.refl e0 G7 (g := (mkF m 4 #[.val (.ref a1), .val (.int (0 : Int32))] [(.ref a1), (.int (0 : Int32))])) rfl rfl (hb hby d37_4)
  have p174 : Go p.tables e below _ (T173.setTop (mkF m 11 #[.val (.ref a1), .val (.int (0 : Int32))] [(.ref a1)])) := fun t_ k_ => (gc p172 st173) t_ (by
   refine XS.icmpNo X173.here hx rfl (hb hby d37_7) rfl (tlt (by decide : ((0 : Int32) < (2 : Int32)))).2.1 ?_
   refine XS.aloadN X173.here hx rfl (hb hby d37_10) rfl rfl ?_
   exact k_)
  obtain ⟨T175, X175, e175, st175⟩ := getF X173 hx hZ hown (host := "") (Or.inl (own_w hw 283 rfl)) Via.refl e173 F6 (g := (mkF m 11 #[.val (.ref a1), .val (.int (0 : Int32))] [(.ref a1)])) rfl rfl (hb hby d37_11)
  have p176 : Go p.tables e below _ (T175.setTop (mkF m 15 #[.val (.ref a1), .val (.int (0 : Int32))] [(.ref a1), (.ref ir)])) := fun t_ k_ => (gc p174 st175) t_ (by
   refine XS.aloadN X175.here hx rfl (hb hby d37_14) rfl rfl ?_
   exact k_)
  obtain ⟨T177, X177, e177, st177⟩ := getF X175 hx hZ hown (host := "") (Or.inl (own_w hw 280 rfl)) Via.refl e175 F5 (g := (mkF m 15 #[.val (.ref a1), .val (.int (0 : Int32))] [(.ref a1), (.ref ir)])) rfl rfl (hb hby d37_15)
  have p178 : Go p.tables e below _ (T177.setTop (mkF m 19 #[.val (.ref a1), .val (.int (0 : Int32))] [(.int (0 : Int32)), (.ref rs), (.ref ir)])) := fun t_ k_ => (gc p176 st177) t_ (by
   refine XS.iloadN X177.here hx rfl (hb hby d37_18) rfl ?_
   exact k_)
  obtain ⟨cl179, Ar179, q179, S179, Ng179, H179, G179⟩ := id Grs
  have hin179 := inb_of S179 (j := (0 : Int32)) ⟨by decide, by decide⟩
  have hat179 := H179.at (v := (.int (0 : Int32))) hin179 rfl
  have p180 : Go p.tables e below _ (T177.setTop (mkF m 21 #[.val (.ref a1), .val (.int (0 : Int32))] [(.int (0 : Int32)), (.int (0 : Int32)), (.ref ir)])) := fun t_ k_ => p178 t_ (by
   refine X177.iaload hx (j := (0 : Int32)) (v := (.int (0 : Int32))) (by rw [e177]; exact Ar179.1) (State.isArrayOf_alike hZ.alike Ar179.2.1) Ar179.2.2 hin179 hat179 (g := (mkF m 19 #[.val (.ref a1), .val (.int (0 : Int32))] [(.int (0 : Int32)), (.ref rs), (.ref ir)])) rfl rfl (hb hby d37_19) _ ?_
   refine XS.iconst X177.here hx rfl (hb hby d37_20) ?_
   exact k_)
  obtain ⟨cl181, Ar181, q181, S181, Ng181, H181, G181⟩ := id F10
  have hin181 := inb_of S181 (j := (0 : Int32)) ⟨by decide, by decide⟩
  obtain ⟨T181, h181, X181, e181, W181, st181⟩ := stZ X177 hx hZ e177 Ar181 (j := (0 : Int32)) hin181 (g := (mkF m 21 #[.val (.ref a1), .val (.int (0 : Int32))] [(.int (0 : Int32)), (.int (0 : Int32)), (.ref ir)])) rfl rfl (hb hby d37_21)
  have K182 : Keep h0 h181 [a1, ir] := (Keep.refl h0 [a1, ir]).wr W181 (Or.inl (List.mem_of_getElem? (i := 1) rfl))
  have N181 := Fr.snoc X181 N0 GE.2.2.2.2.2.1
  have V181 : Arv Z h181 ir kir .boolean (2 : Int32) [(.int (0 : Int32)), (.int eb1)] (.int (0 : Int32)) := Arv.set Ar181 q181 S181 Ng181 H181 G181 (by decide) W181 0 rfl (Nat.le_of_ble_eq_true rfl)
  have p183 : Go p.tables e below _ (T181.setTop (mkF m 4 #[.val (.ref a1), .val (.int (1 : Int32))] [(.ref a1), (.int (1 : Int32))])) := fun t_ k_ => (gc p180 st181) t_ (by
   refine XS.iinc X181.here hx rfl (hb hby d37_22) rfl (l' := #[.val (.ref a1), .val (.int (1 : Int32))]) rfl ?_
   refine XS.goto X181.here hx rfl (pc0 := 25) (pc' := 2) rfl (hb hby d37_25) (by decide) (by decide) ?_
   refine XS.iloadN X181.here hx rfl (hb hby d37_2) rfl ?_
   refine XS.aloadN X181.here hx rfl (hb hby d37_3) rfl rfl ?_
   exact k_)
  have f184 := (G7.other W181 (Or.inl ND.2.2.2.2.1))
  obtain ⟨T185, X185, e185, st185⟩ := getF X181 hx hZ hown (host := "") (Or.inl (own_w hw 306 rfl)) Via.refl e181 f184 (g := (mkF m 4 #[.val (.ref a1), .val (.int (1 : Int32))] [(.ref a1), (.int (1 : Int32))])) rfl rfl (hb hby d37_4)
  have p186 : Go p.tables e below _ (T185.setTop (mkF m 11 #[.val (.ref a1), .val (.int (1 : Int32))] [(.ref a1)])) := fun t_ k_ => (gc p183 st185) t_ (by
   refine XS.icmpNo X185.here hx rfl (hb hby d37_7) rfl (tlt (by decide : ((1 : Int32) < (2 : Int32)))).2.1 ?_
   refine XS.aloadN X185.here hx rfl (hb hby d37_10) rfl rfl ?_
   exact k_)
  have f187 := (F6.other W181 (Or.inl ND.2.2.2.2.1))
  obtain ⟨T188, X188, e188, st188⟩ := getF X185 hx hZ hown (host := "") (Or.inl (own_w hw 283 rfl)) Via.refl e185 f187 (g := (mkF m 11 #[.val (.ref a1), .val (.int (1 : Int32))] [(.ref a1)])) rfl rfl (hb hby d37_11)
  have p189 : Go p.tables e below _ (T188.setTop (mkF m 15 #[.val (.ref a1), .val (.int (1 : Int32))] [(.ref a1), (.ref ir)])) := fun t_ k_ => (gc p186 st188) t_ (by
   refine XS.aloadN X188.here hx rfl (hb hby d37_14) rfl rfl ?_
   exact k_)
  have f190 := (F5.other W181 (Or.inl ND.2.2.2.2.1))
  obtain ⟨T191, X191, e191, st191⟩ := getF X188 hx hZ hown (host := "") (Or.inl (own_w hw 280 rfl)) Via.refl e188 f190 (g := (mkF m 15 #[.val (.ref a1), .val (.int (1 : Int32))] [(.ref a1), (.ref ir)])) rfl rfl (hb hby d37_15)
  have p192 : Go p.tables e below _ (T191.setTop (mkF m 19 #[.val (.ref a1), .val (.int (1 : Int32))] [(.int (1 : Int32)), (.ref rs), (.ref ir)])) := fun t_ k_ => (gc p189 st191) t_ (by
   refine XS.iloadN X191.here hx rfl (hb hby d37_18) rfl ?_
   exact k_)
  have f194 := (Grs.other W181 ND.2.2.2.2.2.2.2.2.2.2.2.2.2.2.2.2.2.2.2.2.2.2.1)
  obtain ⟨cl193, Ar193, q193, S193, Ng193, H193, G193⟩ := id f194
  have hin193 := inb_of S193 (j := (1 : Int32)) ⟨by decide, by decide⟩
  have hat193 := H193.at (v := (.int (1 : Int32))) hin193 rfl
  have p195 : Go p.tables e below _ (T191.setTop (mkF m 21 #[.val (.ref a1), .val (.int (1 : Int32))] [(.int (0 : Int32)), (.int (1 : Int32)), (.ref ir)])) := fun t_ k_ => p192 t_ (by
   refine X191.iaload hx (j := (1 : Int32)) (v := (.int (1 : Int32))) (by rw [e191]; exact Ar193.1) (State.isArrayOf_alike hZ.alike Ar193.2.1) Ar193.2.2 hin193 hat193 (g := (mkF m 19 #[.val (.ref a1), .val (.int (1 : Int32))] [(.int (1 : Int32)), (.ref rs), (.ref ir)])) rfl rfl (hb hby d37_19) _ ?_
   refine XS.iconst X191.here hx rfl (hb hby d37_20) ?_
   exact k_)
  obtain ⟨cl196, Ar196, q196, S196, Ng196, H196, G196⟩ := id V181
  have hin196 := inb_of S196 (j := (1 : Int32)) ⟨by decide, by decide⟩
  obtain ⟨T196, h196, X196, e196, W196, st196⟩ := stZ X191 hx hZ e191 Ar196 (j := (1 : Int32)) hin196 (g := (mkF m 21 #[.val (.ref a1), .val (.int (1 : Int32))] [(.int (0 : Int32)), (.int (1 : Int32)), (.ref ir)])) rfl rfl (hb hby d37_21)
  have K197 : Keep h0 h196 [a1, ir] := K182.wr W196 (Or.inl (List.mem_of_getElem? (i := 1) rfl))
  have N196 := Fr.snoc X196 N181 GE.2.2.2.2.2.1
  have V196 : Arv Z h196 ir kir .boolean (2 : Int32) [(.int (0 : Int32)), (.int (0 : Int32))] (.int (0 : Int32)) := Arv.set Ar196 q196 S196 Ng196 H196 G196 (by decide) W196 1 rfl (Nat.le_of_ble_eq_true rfl)
  have p198 : Go p.tables e below _ (T196.setTop (mkF m 4 #[.val (.ref a1), .val (.int (2 : Int32))] [(.ref a1), (.int (2 : Int32))])) := fun t_ k_ => (gc p195 st196) t_ (by
   refine XS.iinc X196.here hx rfl (hb hby d37_22) rfl (l' := #[.val (.ref a1), .val (.int (2 : Int32))]) rfl ?_
   refine XS.goto X196.here hx rfl (pc0 := 25) (pc' := 2) rfl (hb hby d37_25) (by decide) (by decide) ?_
   refine XS.iloadN X196.here hx rfl (hb hby d37_2) rfl ?_
   refine XS.aloadN X196.here hx rfl (hb hby d37_3) rfl rfl ?_
   exact k_)
  have f199 := (f184.other W196 (Or.inl ND.2.2.2.2.1))
  obtain ⟨T200, X200, e200, st200⟩ := getF X196 hx hZ hown (host := "") (Or.inl (own_w hw 306 rfl)) Via.refl e196 f199 (g := (mkF m 4 #[.val (.ref a1), .val (.int (2 : Int32))] [(.ref a1), (.int (2 : Int32))])) rfl rfl (hb hby d37_4)
  have p201 : Go p.tables e below _ (T200.setTop (mkF m 30 #[.val (.ref a1), .val (.int (2 : Int32))] [(.int (0 : Int32)), (.ref a1)])) := fun t_ k_ => (gc p198 st200) t_ (by
   refine XS.icmpYes X200.here hx rfl (pc0 := 7) (pc' := 28) rfl (hb hby d37_7) rfl (flt (by decide : ¬ ((2 : Int32) < (2 : Int32)))).2.1 (by decide) (by decide) ?_
   refine XS.aloadN X200.here hx rfl (hb hby d37_28) rfl rfl ?_
   refine XS.iconst X200.here hx rfl (hb hby d37_29) ?_
   exact k_)
  have f202 := ((F0.wr W181).wr W196)
  obtain ⟨T203, h203, X203, e203, W203, st203⟩ := putF X200 hx hZ hown (host := "") (Or.inl (own_w hw 306 rfl)) Via.refl e200 f199 f202 (Or.inl (own_w hw 307 rfl)) (own_w hw 90 rfl) (ty := .int) (by decide) rfl rfl (g := (mkF m 30 #[.val (.ref a1), .val (.int (2 : Int32))] [(.int (0 : Int32)), (.ref a1)])) rfl rfl (hb hby d37_30)
  have K204 : Keep h0 h203 [a1, ir] := K197.wr W203 (Or.inl (List.mem_of_getElem? (i := 0) rfl))
  have N203 := Fr.snoc X203 N196 GE.1
  have F203 : Fld Z h203 a1 "com/example/arcward/arcward/solver/Domains" "resizedCount" "I" (.int (0 : Int32)) := f199.same W203
  have f205 := (f202.wr W203)
  have f206 := (((F1.other W181 (Or.inl ND.2.2.2.2.1)).other W196 (Or.inl ND.2.2.2.2.1)).other W203 (Or.inr (slot_ne (Or.inl (own_w hw 265 rfl)) (Or.inl (own_w hw 307 rfl)) (by decide) (t := (.array .int)) (t' := .int) (by decide) (by decide))))
  have f207 := (((F2.other W181 (Or.inl ND.2.2.2.2.1)).other W196 (Or.inl ND.2.2.2.2.1)).other W203 (Or.inr (slot_ne (Or.inr (own_w hw 267 rfl)) (Or.inl (own_w hw 307 rfl)) (by decide) (t := (.array .int)) (t' := .int) (by decide) (by decide))))
  have f208 := (((F3.other W181 (Or.inl ND.2.2.2.2.1)).other W196 (Or.inl ND.2.2.2.2.1)).other W203 (Or.inr (slot_ne (Or.inr (own_w hw 277 rfl)) (Or.inl (own_w hw 307 rfl)) (by decide) (t := (.array (.array .long))) (t' := .int) (by decide) (by decide))))
  have f209 := (((F4.other W181 (Or.inl ND.2.2.2.2.1)).other W196 (Or.inl ND.2.2.2.2.1)).other W203 (Or.inr (slot_ne (Or.inr (own_w hw 279 rfl)) (Or.inl (own_w hw 307 rfl)) (by decide) (t := (.array .int)) (t' := .int) (by decide) (by decide))))
  have f210 := ((f190.other W196 (Or.inl ND.2.2.2.2.1)).other W203 (Or.inr (slot_ne (Or.inr (own_w hw 281 rfl)) (Or.inl (own_w hw 307 rfl)) (by decide) (t := (.array .int)) (t' := .int) (by decide) (by decide))))
  have f211 := ((f187.other W196 (Or.inl ND.2.2.2.2.1)).other W203 (Or.inr (slot_ne (Or.inr (own_w hw 284 rfl)) (Or.inl (own_w hw 307 rfl)) (by decide) (t := (.array .boolean)) (t' := .int) (by decide) (by decide))))
  have f212 := (((F8.other W181 (Or.inl ND.2.2.2.2.1)).other W196 (Or.inl ND.2.2.2.2.1)).other W203 (Or.inr (slot_ne (Or.inl (own_w hw 329 rfl)) (Or.inl (own_w hw 307 rfl)) (by decide) (t := .int) (t' := .int) (by decide) (by decide))))
  have f213 := ((f194.other W196 ND.2.2.2.2.2.2.2.2.2.2.2.2.2.2.2.2.2.2.2.2.2.2.1).other W203 (Ne.symm ND.2.2.2.1))
  have f214 := (V196.other W203 (Ne.symm ND.2.2.2.2.1))
  obtain ⟨fs, hr, hrun, hended, hW, hsame⟩ := X203.leave (v := none) (fun _ => rfl)
  refine ⟨_, _, (gc p201 st203) _ (X203.returnOut hx Bd.returns (hb hby d37_33) hr), hrun, hended, _, _, rfl, ?_, ⟨_, rfl⟩, hW, hsame.mono (by decide) (by decide)⟩
  show Q37 Z a1 tr bi sz rs ir w0 w1 rb krs kir tl rc u0 u1 eb0 eb1 h0 n0 _ T203.heap _
  rw [e203]
  exact ⟨rfl, N203, K204, f205, f206, f207, f208, f209, f210, f211, F203, f212, (by rw [r2, r3]; exact f213), f214⟩
 ·have G7 : Fld Z h0 a1 "com/example/arcward/arcward/solver/Domains" "resizedCount" "I" (.int (2 : Int32)) := by rw [← r1]; exact F7
  have Grs : Arv Z h0 rs krs .int (2 : Int32) [(.int (1 : Int32)), (.int (0 : Int32))] (.int (0 : Int32)) := by have z := F9; rw [r2, r3] at z; exact z
  have p215 : Go p.tables e below _ (s₁.setTop (mkF m 4 #[.val (.ref a1), .val (.int (0 : Int32))] [(.ref a1), (.int (0 : Int32))])) := fun t_ k_ => p0 t_ (by
   refine XS.iconst X0.here hx rfl (hb hby d37_0) ?_
   refine XS.istoreN X0.here hx rfl (hb hby d37_1) rfl (l' := #[.val (.ref a1), .val (.int (0 : Int32))]) rfl ?_
   refine XS.iloadN X0.here hx rfl (hb hby d37_2) rfl ?_
   refine XS.aloadN X0.here hx rfl (hb hby d37_3) rfl rfl ?_
   exact k_)
  obtain ⟨T216, X216, e216, st216⟩ := getF X0 hx hZ hown (host := "") (Or.inl (own_w hw 306 rfl)) Via.refl e0 G7 (g := (mkF m 4 #[.val (.ref a1), .val (.int (0 : Int32))] [(.ref a1), (.int (0 : Int32))])) rfl rfl (hb hby d37_4)
  have p217 : Go p.tables e below _ (T216.setTop (mkF m 11 #[.val (.ref a1), .val (.int (0 : Int32))] [(.ref a1)])) := fun t_ k_ => (gc p215 st216) t_ (by
   refine XS.icmpNo X216.here hx rfl (hb hby d37_7) rfl (tlt (by decide : ((0 : Int32) < (2 : Int32)))).2.1 ?_
   refine XS.aloadN X216.here hx rfl (hb hby d37_10) rfl rfl ?_
   exact k_)
  obtain ⟨T218, X218, e218, st218⟩ := getF X216 hx hZ hown (host := "") (Or.inl (own_w hw 283 rfl)) Via.refl e216 F6 (g := (mkF m 11 #[.val (.ref a1), .val (.int (0 : Int32))] [(.ref a1)])) rfl rfl (hb hby d37_11)
  have p219 : Go p.tables e below _ (T218.setTop (mkF m 15 #[.val (.ref a1), .val (.int (0 : Int32))] [(.ref a1), (.ref ir)])) := fun t_ k_ => (gc p217 st218) t_ (by
   refine XS.aloadN X218.here hx rfl (hb hby d37_14) rfl rfl ?_
   exact k_)
  obtain ⟨T220, X220, e220, st220⟩ := getF X218 hx hZ hown (host := "") (Or.inl (own_w hw 280 rfl)) Via.refl e218 F5 (g := (mkF m 15 #[.val (.ref a1), .val (.int (0 : Int32))] [(.ref a1), (.ref ir)])) rfl rfl (hb hby d37_15)
  have p221 : Go p.tables e below _ (T220.setTop (mkF m 19 #[.val (.ref a1), .val (.int (0 : Int32))] [(.int (0 : Int32)), (.ref rs), (.ref ir)])) := fun t_ k_ => (gc p219 st220) t_ (by
   refine XS.iloadN X220.here hx rfl (hb hby d37_18) rfl ?_
   exact k_)
  obtain ⟨cl222, Ar222, q222, S222, Ng222, H222, G222⟩ := id Grs
  have hin222 := inb_of S222 (j := (0 : Int32)) ⟨by decide, by decide⟩
  have hat222 := H222.at (v := (.int (1 : Int32))) hin222 rfl
  have p223 : Go p.tables e below _ (T220.setTop (mkF m 21 #[.val (.ref a1), .val (.int (0 : Int32))] [(.int (0 : Int32)), (.int (1 : Int32)), (.ref ir)])) := fun t_ k_ => p221 t_ (by
   refine X220.iaload hx (j := (0 : Int32)) (v := (.int (1 : Int32))) (by rw [e220]; exact Ar222.1) (State.isArrayOf_alike hZ.alike Ar222.2.1) Ar222.2.2 hin222 hat222 (g := (mkF m 19 #[.val (.ref a1), .val (.int (0 : Int32))] [(.int (0 : Int32)), (.ref rs), (.ref ir)])) rfl rfl (hb hby d37_19) _ ?_
   refine XS.iconst X220.here hx rfl (hb hby d37_20) ?_
   exact k_)
  obtain ⟨cl224, Ar224, q224, S224, Ng224, H224, G224⟩ := id F10
  have hin224 := inb_of S224 (j := (1 : Int32)) ⟨by decide, by decide⟩
  obtain ⟨T224, h224, X224, e224, W224, st224⟩ := stZ X220 hx hZ e220 Ar224 (j := (1 : Int32)) hin224 (g := (mkF m 21 #[.val (.ref a1), .val (.int (0 : Int32))] [(.int (0 : Int32)), (.int (1 : Int32)), (.ref ir)])) rfl rfl (hb hby d37_21)
  have K225 : Keep h0 h224 [a1, ir] := (Keep.refl h0 [a1, ir]).wr W224 (Or.inl (List.mem_of_getElem? (i := 1) rfl))
  have N224 := Fr.snoc X224 N0 GE.2.2.2.2.2.1
  have V224 : Arv Z h224 ir kir .boolean (2 : Int32) [(.int eb0), (.int (0 : Int32))] (.int (0 : Int32)) := Arv.set Ar224 q224 S224 Ng224 H224 G224 (by decide) W224 1 rfl (Nat.le_of_ble_eq_true rfl)
  have p226 : Go p.tables e below _ (T224.setTop (mkF m 4 #[.val (.ref a1), .val (.int (1 : Int32))] [(.ref a1), (.int (1 : Int32))])) := fun t_ k_ => (gc p223 st224) t_ (by
   refine XS.iinc X224.here hx rfl (hb hby d37_22) rfl (l' := #[.val (.ref a1), .val (.int (1 : Int32))]) rfl ?_
   refine XS.goto X224.here hx rfl (pc0 := 25) (pc' := 2) rfl (hb hby d37_25) (by decide) (by decide) ?_
   refine XS.iloadN X224.here hx rfl (hb hby d37_2) rfl ?_
   refine XS.aloadN X224.here hx rfl (hb hby d37_3) rfl rfl ?_
   exact k_)
  have f227 := (G7.other W224 (Or.inl ND.2.2.2.2.1))
  obtain ⟨T228, X228, e228, st228⟩ := getF X224 hx hZ hown (host := "") (Or.inl (own_w hw 306 rfl)) Via.refl e224 f227 (g := (mkF m 4 #[.val (.ref a1), .val (.int (1 : Int32))] [(.ref a1), (.int (1 : Int32))])) rfl rfl (hb hby d37_4)
  have p229 : Go p.tables e below _ (T228.setTop (mkF m 11 #[.val (.ref a1), .val (.int (1 : Int32))] [(.ref a1)])) := fun t_ k_ => (gc p226 st228) t_ (by
   refine XS.icmpNo X228.here hx rfl (hb hby d37_7) rfl (tlt (by decide : ((1 : Int32) < (2 : Int32)))).2.1 ?_
   refine XS.aloadN X228.here hx rfl (hb hby d37_10) rfl rfl ?_
   exact k_)
  have f230 := (F6.other W224 (Or.inl ND.2.2.2.2.1))
  obtain ⟨T231, X231, e231, st231⟩ := getF X228 hx hZ hown (host := "") (Or.inl (own_w hw 283 rfl)) Via.refl e228 f230 (g := (mkF m 11 #[.val (.ref a1), .val (.int (1 : Int32))] [(.ref a1)])) rfl rfl (hb hby d37_11)
  have p232 : Go p.tables e below _ (T231.setTop (mkF m 15 #[.val (.ref a1), .val (.int (1 : Int32))] [(.ref a1), (.ref ir)])) := fun t_ k_ => (gc p229 st231) t_ (by
   refine XS.aloadN X231.here hx rfl (hb hby d37_14) rfl rfl ?_
   exact k_)
  have f233 := (F5.other W224 (Or.inl ND.2.2.2.2.1))
  obtain ⟨T234, X234, e234, st234⟩ := getF X231 hx hZ hown (host := "") (Or.inl (own_w hw 280 rfl)) Via.refl e231 f233 (g := (mkF m 15 #[.val (.ref a1), .val (.int (1 : Int32))] [(.ref a1), (.ref ir)])) rfl rfl (hb hby d37_15)
  have p235 : Go p.tables e below _ (T234.setTop (mkF m 19 #[.val (.ref a1), .val (.int (1 : Int32))] [(.int (1 : Int32)), (.ref rs), (.ref ir)])) := fun t_ k_ => (gc p232 st234) t_ (by
   refine XS.iloadN X234.here hx rfl (hb hby d37_18) rfl ?_
   exact k_)
  have f237 := (Grs.other W224 ND.2.2.2.2.2.2.2.2.2.2.2.2.2.2.2.2.2.2.2.2.2.2.1)
  obtain ⟨cl236, Ar236, q236, S236, Ng236, H236, G236⟩ := id f237
  have hin236 := inb_of S236 (j := (1 : Int32)) ⟨by decide, by decide⟩
  have hat236 := H236.at (v := (.int (0 : Int32))) hin236 rfl
  have p238 : Go p.tables e below _ (T234.setTop (mkF m 21 #[.val (.ref a1), .val (.int (1 : Int32))] [(.int (0 : Int32)), (.int (0 : Int32)), (.ref ir)])) := fun t_ k_ => p235 t_ (by
   refine X234.iaload hx (j := (1 : Int32)) (v := (.int (0 : Int32))) (by rw [e234]; exact Ar236.1) (State.isArrayOf_alike hZ.alike Ar236.2.1) Ar236.2.2 hin236 hat236 (g := (mkF m 19 #[.val (.ref a1), .val (.int (1 : Int32))] [(.int (1 : Int32)), (.ref rs), (.ref ir)])) rfl rfl (hb hby d37_19) _ ?_
   refine XS.iconst X234.here hx rfl (hb hby d37_20) ?_
   exact k_)
  obtain ⟨cl239, Ar239, q239, S239, Ng239, H239, G239⟩ := id V224
  have hin239 := inb_of S239 (j := (0 : Int32)) ⟨by decide, by decide⟩
  obtain ⟨T239, h239, X239, e239, W239, st239⟩ := stZ X234 hx hZ e234 Ar239 (j := (0 : Int32)) hin239 (g := (mkF m 21 #[.val (.ref a1), .val (.int (1 : Int32))] [(.int (0 : Int32)), (.int (0 : Int32)), (.ref ir)])) rfl rfl (hb hby d37_21)
  have K240 : Keep h0 h239 [a1, ir] := K225.wr W239 (Or.inl (List.mem_of_getElem? (i := 1) rfl))
  have N239 := Fr.snoc X239 N224 GE.2.2.2.2.2.1
  have V239 : Arv Z h239 ir kir .boolean (2 : Int32) [(.int (0 : Int32)), (.int (0 : Int32))] (.int (0 : Int32)) := Arv.set Ar239 q239 S239 Ng239 H239 G239 (by decide) W239 0 rfl (Nat.le_of_ble_eq_true rfl)
  have p241 : Go p.tables e below _ (T239.setTop (mkF m 4 #[.val (.ref a1), .val (.int (2 : Int32))] [(.ref a1), (.int (2 : Int32))])) := fun t_ k_ => (gc p238 st239) t_ (by
   refine XS.iinc X239.here hx rfl (hb hby d37_22) rfl (l' := #[.val (.ref a1), .val (.int (2 : Int32))]) rfl ?_
   refine XS.goto X239.here hx rfl (pc0 := 25) (pc' := 2) rfl (hb hby d37_25) (by decide) (by decide) ?_
   refine XS.iloadN X239.here hx rfl (hb hby d37_2) rfl ?_
   refine XS.aloadN X239.here hx rfl (hb hby d37_3) rfl rfl ?_
   exact k_)
  have f242 := (f227.other W239 (Or.inl ND.2.2.2.2.1))
  obtain ⟨T243, X243, e243, st243⟩ := getF X239 hx hZ hown (host := "") (Or.inl (own_w hw 306 rfl)) Via.refl e239 f242 (g := (mkF m 4 #[.val (.ref a1), .val (.int (2 : Int32))] [(.ref a1), (.int (2 : Int32))])) rfl rfl (hb hby d37_4)
  have p244 : Go p.tables e below _ (T243.setTop (mkF m 30 #[.val (.ref a1), .val (.int (2 : Int32))] [(.int (0 : Int32)), (.ref a1)])) := fun t_ k_ => (gc p241 st243) t_ (by
   refine XS.icmpYes X243.here hx rfl (pc0 := 7) (pc' := 28) rfl (hb hby d37_7) rfl (flt (by decide : ¬ ((2 : Int32) < (2 : Int32)))).2.1 (by decide) (by decide) ?_
   refine XS.aloadN X243.here hx rfl (hb hby d37_28) rfl rfl ?_
   refine XS.iconst X243.here hx rfl (hb hby d37_29) ?_
   exact k_)
  have f245 := ((F0.wr W224).wr W239)
  obtain ⟨T246, h246, X246, e246, W246, st246⟩ := putF X243 hx hZ hown (host := "") (Or.inl (own_w hw 306 rfl)) Via.refl e243 f242 f245 (Or.inl (own_w hw 307 rfl)) (own_w hw 90 rfl) (ty := .int) (by decide) rfl rfl (g := (mkF m 30 #[.val (.ref a1), .val (.int (2 : Int32))] [(.int (0 : Int32)), (.ref a1)])) rfl rfl (hb hby d37_30)
  have K247 : Keep h0 h246 [a1, ir] := K240.wr W246 (Or.inl (List.mem_of_getElem? (i := 0) rfl))
  have N246 := Fr.snoc X246 N239 GE.1
  have F246 : Fld Z h246 a1 "com/example/arcward/arcward/solver/Domains" "resizedCount" "I" (.int (0 : Int32)) := f242.same W246
  have f248 := (f245.wr W246)
  have f249 := (((F1.other W224 (Or.inl ND.2.2.2.2.1)).other W239 (Or.inl ND.2.2.2.2.1)).other W246 (Or.inr (slot_ne (Or.inl (own_w hw 265 rfl)) (Or.inl (own_w hw 307 rfl)) (by decide) (t := (.array .int)) (t' := .int) (by decide) (by decide))))
  have f250 := (((F2.other W224 (Or.inl ND.2.2.2.2.1)).other W239 (Or.inl ND.2.2.2.2.1)).other W246 (Or.inr (slot_ne (Or.inr (own_w hw 267 rfl)) (Or.inl (own_w hw 307 rfl)) (by decide) (t := (.array .int)) (t' := .int) (by decide) (by decide))))
  have f251 := (((F3.other W224 (Or.inl ND.2.2.2.2.1)).other W239 (Or.inl ND.2.2.2.2.1)).other W246 (Or.inr (slot_ne (Or.inr (own_w hw 277 rfl)) (Or.inl (own_w hw 307 rfl)) (by decide) (t := (.array (.array .long))) (t' := .int) (by decide) (by decide))))
  have f252 := (((F4.other W224 (Or.inl ND.2.2.2.2.1)).other W239 (Or.inl ND.2.2.2.2.1)).other W246 (Or.inr (slot_ne (Or.inr (own_w hw 279 rfl)) (Or.inl (own_w hw 307 rfl)) (by decide) (t := (.array .int)) (t' := .int) (by decide) (by decide))))
  have f253 := ((f233.other W239 (Or.inl ND.2.2.2.2.1)).other W246 (Or.inr (slot_ne (Or.inr (own_w hw 281 rfl)) (Or.inl (own_w hw 307 rfl)) (by decide) (t := (.array .int)) (t' := .int) (by decide) (by decide))))
  have f254 := ((f230.other W239 (Or.inl ND.2.2.2.2.1)).other W246 (Or.inr (slot_ne (Or.inr (own_w hw 284 rfl)) (Or.inl (own_w hw 307 rfl)) (by decide) (t := (.array .boolean)) (t' := .int) (by decide) (by decide))))
  have f255 := (((F8.other W224 (Or.inl ND.2.2.2.2.1)).other W239 (Or.inl ND.2.2.2.2.1)).other W246 (Or.inr (slot_ne (Or.inl (own_w hw 329 rfl)) (Or.inl (own_w hw 307 rfl)) (by decide) (t := .int) (t' := .int) (by decide) (by decide))))
  have f256 := ((f237.other W239 ND.2.2.2.2.2.2.2.2.2.2.2.2.2.2.2.2.2.2.2.2.2.2.1).other W246 (Ne.symm ND.2.2.2.1))
  have f257 := (V239.other W246 (Ne.symm ND.2.2.2.2.1))
  obtain ⟨fs, hr, hrun, hended, hW, hsame⟩ := X246.leave (v := none) (fun _ => rfl)
  refine ⟨_, _, (gc p244 st246) _ (X246.returnOut hx Bd.returns (hb hby d37_33) hr), hrun, hended, _, _, rfl, ?_, ⟨_, rfl⟩, hW, hsame.mono (by decide) (by decide)⟩
  show Q37 Z a1 tr bi sz rs ir w0 w1 rb krs kir tl rc u0 u1 eb0 eb1 h0 n0 _ T246.heap _
  rw [e246]
  exact ⟨rfl, N246, K247, f248, f249, f250, f251, f252, f253, f254, F246, f255, (by rw [r2, r3]; exact f256), f257⟩
theorem d38_0 : decode prog_50_method_3_code 0 = .ok (.aload_n 0, 1) := by decide +kernel
theorem d38_1 : decode prog_50_method_3_code 1 = .ok (.getfield 55, 3) := by decide +kernel
theorem d38_4 : decode prog_50_method_3_code 4 = .ok (.ireturn, 1) := by decide +kernel
theorem pn38 : plainFor (⟨"com/example/arcward/arcward/solver/Domains", "resizedCount", "()I"⟩ : MethodName) = true := plainFor_of_name (by first | (simp [plainName, overriddenIn]; done) | decide +kernel)
theorem ef_rm38 (m : MethodId) (a1 : Addr) (rc : Int32) : entryFrame m #[(.ref a1)] 1 = mkF m 0 #[.val (.ref a1)] [] := by first | (simp [entryFrame, mkF, argsToLocals, Value.category]; done) | rfl
def Q38 (Z : State) (a1 : Addr) (rc : Int32) (h0 : Heap) (n0 : Nat) (v : Option Value) (h : Heap) (L : List Loc) : Prop := v = some (.int rc) ∧ Fr n0 L ∧ (h = h0)
set_option maxRecDepth 65536 in
set_option maxHeartbeats 40000000 in
theorem rm38 (l : Launch) (Z : State) (a0 : Array Value) (hw : ∀ d ∈ tables_1, d.before a0 Z = true) (ws : List Jvm.Cond) (a1 : Addr) (rc : Int32) (h0 : Heap) (n0 : Nat) (Z0 : n0 ≤ h0.size) (F1 : Fld Z h0 a1 "com/example/arcward/arcward/solver/Domains" "resizedCount" "I" (.int rc)) :
  MetFree l (⟨"com/example/arcward/arcward/solver/Domains", "resizedCount", "()I"⟩ : MethodName) (head1 (Jvm.Cond.code (⟨"com/example/arcward/arcward/solver/Domains", "resizedCount", "()I"⟩ : MethodName) prog_50_method_3_code 1 (some .int) :: ws) ({ frames := 0, cells := 0, slots := 0, locals := 0 } : Room)) (fun a U => a = #[(.ref a1)] ∧ Z.Warmed39 U.vm ∧ U.heap = h0) (fun _ _ _ _ _ => True) (fun _ U o U' => ∃ v L, o = .returned v ∧ Q38 Z a1 rc h0 n0 v U'.heap L ∧ FrameEnd U o U' L ({ frames := 0, cells := 0, slots := 0, locals := 0 } : Room).cells ({ frames := 0, cells := 0, slots := 0, locals := 0 } : Room).slots) := by
 refine MetFree.of_bodySF pn38 hisR ?_
 intro p e s m args below meth c s₁ Bd hml0 hP hK
 obtain ⟨rfl, hZ, hh⟩ := hP
 have hx := Bd.exec
 have hby := Bd.bytes
 have hml : c.maxLocals = 1 := hml0
 have hown : s.vm.findClass "com/example/arcward/arcward/solver/Domains" = some m.cls := findClass_of_methodNamed Bd.named
 have hnm := (name_of_methodNamed Bd.named Bd.method).1
 have X0 : Stand p l e ({ frames := 0, cells := 0, slots := 0, locals := 0 } : Room) s m #[(.ref a1)] below meth c s₁ [] 0 0 := Stand.of_body Bd
 have e0 : s₁.heap = h0 := by rw [← hh, Bd.state]; rfl
 have N0 := Fr.nil n0
 have p0 : Go p.tables e below (s₁.setTop (entryFrame m #[(.ref a1)] 1)) (s₁.setTop (mkF m 0 #[.val (.ref a1)] [])) := fun t_ k_ => castTop (ef_rm38 m a1 rc) k_
 have p101 : Go p.tables e below _ (s₁.setTop (mkF m 1 #[.val (.ref a1)] [(.ref a1)])) := fun t_ k_ => p0 t_ (by
  refine XS.aloadN X0.here hx rfl (hb hby d38_0) rfl rfl ?_
  exact k_)
 obtain ⟨T102, X102, e102, st102⟩ := getF X0 hx hZ hown (host := "") (Or.inl (own_w hw 306 rfl)) Via.refl e0 F1 (g := (mkF m 1 #[.val (.ref a1)] [(.ref a1)])) rfl rfl (hb hby d38_1)
 obtain ⟨fs, hr, hrun, hended, hW, hsame⟩ := X102.leave (v := some (.int rc)) (fun h => by rw [Bd.returns] at h; cases h)
 refine ⟨_, _, (gc p101 st102) _ (retI X102 hx Bd.returns (hb hby d38_4) hr), hrun, hended, _, _, rfl, ?_, ⟨_, rfl⟩, hW, hsame.mono (by decide) (by decide)⟩
 show Q38 Z a1 rc h0 n0 _ T102.heap _
 rw [e102]
 exact ⟨rfl, N0, rfl⟩
theorem d42_0 : decode prog_50_method_4_code 0 = .ok (.aload_n 0, 1) := by decide +kernel
theorem d42_1 : decode prog_50_method_4_code 1 = .ok (.getfield 37, 3) := by decide +kernel
theorem d42_4 : decode prog_50_method_4_code 4 = .ok (.iload_n 1, 1) := by decide +kernel
theorem d42_5 : decode prog_50_method_4_code 5 = .ok (.iaload, 1) := by decide +kernel
theorem d42_6 : decode prog_50_method_4_code 6 = .ok (.ireturn, 1) := by decide +kernel
theorem pn42 : plainFor (⟨"com/example/arcward/arcward/solver/Domains", "resized", "(I)I"⟩ : MethodName) = true := plainFor_of_name (by first | (simp [plainName, overriddenIn]; done) | decide +kernel)
theorem ef_rm42_0 (m : MethodId) (a1 : Addr) (rs : Addr) (krs : ClassId) (u0 : Int32) (u1 : Int32) : entryFrame m #[(.ref a1), (.int (0 : Int32))] 2 = mkF m 0 #[.val (.ref a1), .val (.int (0 : Int32))] [] := by first | (simp [entryFrame, mkF, argsToLocals, Value.category]; done) | rfl
def Q42_0 (Z : State) (a1 : Addr) (rs : Addr) (krs : ClassId) (u0 : Int32) (u1 : Int32) (h0 : Heap) (n0 : Nat) (v : Option Value) (h : Heap) (L : List Loc) : Prop := v = some (.int u0) ∧ Fr n0 L ∧ (h = h0)
set_option maxRecDepth 65536 in
set_option maxHeartbeats 40000000 in
theorem rm42_0 (l : Launch) (Z : State) (a0 : Array Value) (hw : ∀ d ∈ tables_1, d.before a0 Z = true) (ws : List Jvm.Cond) (a1 : Addr) (rs : Addr) (krs : ClassId) (u0 : Int32) (u1 : Int32) (h0 : Heap) (n0 : Nat) (Z0 : n0 ≤ h0.size) (F1 : Fld Z h0 a1 "com/example/arcward/arcward/solver/Domains" "resized" "[I" (.ref rs)) (V1 : Arv Z h0 rs krs .int (2 : Int32) [(.int u0), (.int u1)] (.int (0 : Int32))) :
  MetFree l (⟨"com/example/arcward/arcward/solver/Domains", "resized", "(I)I"⟩ : MethodName) (head1 (Jvm.Cond.code (⟨"com/example/arcward/arcward/solver/Domains", "resized", "(I)I"⟩ : MethodName) prog_50_method_4_code 2 (some .int) :: ws) ({ frames := 0, cells := 0, slots := 0, locals := 0 } : Room)) (fun a U => a = #[(.ref a1), (.int (0 : Int32))] ∧ Z.Warmed39 U.vm ∧ U.heap = h0) (fun _ _ _ _ _ => True) (fun _ U o U' => ∃ v L, o = .returned v ∧ Q42_0 Z a1 rs krs u0 u1 h0 n0 v U'.heap L ∧ FrameEnd U o U' L ({ frames := 0, cells := 0, slots := 0, locals := 0 } : Room).cells ({ frames := 0, cells := 0, slots := 0, locals := 0 } : Room).slots) := by
 refine MetFree.of_bodySF pn42 hisR ?_
 intro p e s m args below meth c s₁ Bd hml0 hP hK
 obtain ⟨rfl, hZ, hh⟩ := hP
 have hx := Bd.exec
 have hby := Bd.bytes
 have hml : c.maxLocals = 2 := hml0
 have hown : s.vm.findClass "com/example/arcward/arcward/solver/Domains" = some m.cls := findClass_of_methodNamed Bd.named
 have hnm := (name_of_methodNamed Bd.named Bd.method).1
 have X0 : Stand p l e ({ frames := 0, cells := 0, slots := 0, locals := 0 } : Room) s m #[(.ref a1), (.int (0 : Int32))] below meth c s₁ [] 0 0 := Stand.of_body Bd
 have e0 : s₁.heap = h0 := by rw [← hh, Bd.state]; rfl
 have N0 := Fr.nil n0
 have p0 : Go p.tables e below (s₁.setTop (entryFrame m #[(.ref a1), (.int (0 : Int32))] 2)) (s₁.setTop (mkF m 0 #[.val (.ref a1), .val (.int (0 : Int32))] [])) := fun t_ k_ => castTop (ef_rm42_0 m a1 rs krs u0 u1) k_
 have p101 : Go p.tables e below _ (s₁.setTop (mkF m 1 #[.val (.ref a1), .val (.int (0 : Int32))] [(.ref a1)])) := fun t_ k_ => p0 t_ (by
  refine XS.aloadN X0.here hx rfl (hb hby d42_0) rfl rfl ?_
  exact k_)
 obtain ⟨T102, X102, e102, st102⟩ := getF X0 hx hZ hown (host := "") (Or.inl (own_w hw 280 rfl)) Via.refl e0 F1 (g := (mkF m 1 #[.val (.ref a1), .val (.int (0 : Int32))] [(.ref a1)])) rfl rfl (hb hby d42_1)
 have p103 : Go p.tables e below _ (T102.setTop (mkF m 5 #[.val (.ref a1), .val (.int (0 : Int32))] [(.int (0 : Int32)), (.ref rs)])) := fun t_ k_ => (gc p101 st102) t_ (by
  refine XS.iloadN X102.here hx rfl (hb hby d42_4) rfl ?_
  exact k_)
 obtain ⟨cl104, Ar104, q104, S104, Ng104, H104, G104⟩ := id V1
 have hin104 := inb_of S104 (j := (0 : Int32)) ⟨by decide, by decide⟩
 have hat104 := H104.at (v := (.int u0)) hin104 rfl
 have p105 : Go p.tables e below _ (T102.setTop (mkF m 6 #[.val (.ref a1), .val (.int (0 : Int32))] [(.int u0)])) := fun t_ k_ => p103 t_ (by
  refine X102.iaload hx (j := (0 : Int32)) (v := (.int u0)) (by rw [e102]; exact Ar104.1) (State.isArrayOf_alike hZ.alike Ar104.2.1) Ar104.2.2 hin104 hat104 (g := (mkF m 5 #[.val (.ref a1), .val (.int (0 : Int32))] [(.int (0 : Int32)), (.ref rs)])) rfl rfl (hb hby d42_5) _ ?_
  exact k_)
 obtain ⟨fs, hr, hrun, hended, hW, hsame⟩ := X102.leave (v := some (.int u0)) (fun h => by rw [Bd.returns] at h; cases h)
 refine ⟨_, _, p105 _ (retI X102 hx Bd.returns (hb hby d42_6) hr), hrun, hended, _, _, rfl, ?_, ⟨_, rfl⟩, hW, hsame.mono (by decide) (by decide)⟩
 show Q42_0 Z a1 rs krs u0 u1 h0 n0 _ T102.heap _
 rw [e102]
 exact ⟨rfl, N0, rfl⟩
theorem ef_rm42_1 (m : MethodId) (a1 : Addr) (rs : Addr) (krs : ClassId) (u0 : Int32) (u1 : Int32) : entryFrame m #[(.ref a1), (.int (1 : Int32))] 2 = mkF m 0 #[.val (.ref a1), .val (.int (1 : Int32))] [] := by first | (simp [entryFrame, mkF, argsToLocals, Value.category]; done) | rfl
def Q42_1 (Z : State) (a1 : Addr) (rs : Addr) (krs : ClassId) (u0 : Int32) (u1 : Int32) (h0 : Heap) (n0 : Nat) (v : Option Value) (h : Heap) (L : List Loc) : Prop := v = some (.int u1) ∧ Fr n0 L ∧ (h = h0)
set_option maxRecDepth 65536 in
set_option maxHeartbeats 40000000 in
theorem rm42_1 (l : Launch) (Z : State) (a0 : Array Value) (hw : ∀ d ∈ tables_1, d.before a0 Z = true) (ws : List Jvm.Cond) (a1 : Addr) (rs : Addr) (krs : ClassId) (u0 : Int32) (u1 : Int32) (h0 : Heap) (n0 : Nat) (Z0 : n0 ≤ h0.size) (F1 : Fld Z h0 a1 "com/example/arcward/arcward/solver/Domains" "resized" "[I" (.ref rs)) (V1 : Arv Z h0 rs krs .int (2 : Int32) [(.int u0), (.int u1)] (.int (0 : Int32))) :
  MetFree l (⟨"com/example/arcward/arcward/solver/Domains", "resized", "(I)I"⟩ : MethodName) (head1 (Jvm.Cond.code (⟨"com/example/arcward/arcward/solver/Domains", "resized", "(I)I"⟩ : MethodName) prog_50_method_4_code 2 (some .int) :: ws) ({ frames := 0, cells := 0, slots := 0, locals := 0 } : Room)) (fun a U => a = #[(.ref a1), (.int (1 : Int32))] ∧ Z.Warmed39 U.vm ∧ U.heap = h0) (fun _ _ _ _ _ => True) (fun _ U o U' => ∃ v L, o = .returned v ∧ Q42_1 Z a1 rs krs u0 u1 h0 n0 v U'.heap L ∧ FrameEnd U o U' L ({ frames := 0, cells := 0, slots := 0, locals := 0 } : Room).cells ({ frames := 0, cells := 0, slots := 0, locals := 0 } : Room).slots) := by
 refine MetFree.of_bodySF pn42 hisR ?_
 intro p e s m args below meth c s₁ Bd hml0 hP hK
 obtain ⟨rfl, hZ, hh⟩ := hP
 have hx := Bd.exec
 have hby := Bd.bytes
 have hml : c.maxLocals = 2 := hml0
 have hown : s.vm.findClass "com/example/arcward/arcward/solver/Domains" = some m.cls := findClass_of_methodNamed Bd.named
 have hnm := (name_of_methodNamed Bd.named Bd.method).1
 have X0 : Stand p l e ({ frames := 0, cells := 0, slots := 0, locals := 0 } : Room) s m #[(.ref a1), (.int (1 : Int32))] below meth c s₁ [] 0 0 := Stand.of_body Bd
 have e0 : s₁.heap = h0 := by rw [← hh, Bd.state]; rfl
 have N0 := Fr.nil n0
 have p0 : Go p.tables e below (s₁.setTop (entryFrame m #[(.ref a1), (.int (1 : Int32))] 2)) (s₁.setTop (mkF m 0 #[.val (.ref a1), .val (.int (1 : Int32))] [])) := fun t_ k_ => castTop (ef_rm42_1 m a1 rs krs u0 u1) k_
 have p101 : Go p.tables e below _ (s₁.setTop (mkF m 1 #[.val (.ref a1), .val (.int (1 : Int32))] [(.ref a1)])) := fun t_ k_ => p0 t_ (by
  refine XS.aloadN X0.here hx rfl (hb hby d42_0) rfl rfl ?_
  exact k_)
 obtain ⟨T102, X102, e102, st102⟩ := getF X0 hx hZ hown (host := "") (Or.inl (own_w hw 280 rfl)) Via.refl e0 F1 (g := (mkF m 1 #[.val (.ref a1), .val (.int (1 : Int32))] [(.ref a1)])) rfl rfl (hb hby d42_1)
 have p103 : Go p.tables e below _ (T102.setTop (mkF m 5 #[.val (.ref a1), .val (.int (1 : Int32))] [(.int (1 : Int32)), (.ref rs)])) := fun t_ k_ => (gc p101 st102) t_ (by
  refine XS.iloadN X102.here hx rfl (hb hby d42_4) rfl ?_
  exact k_)
 obtain ⟨cl104, Ar104, q104, S104, Ng104, H104, G104⟩ := id V1
 have hin104 := inb_of S104 (j := (1 : Int32)) ⟨by decide, by decide⟩
 have hat104 := H104.at (v := (.int u1)) hin104 rfl
 have p105 : Go p.tables e below _ (T102.setTop (mkF m 6 #[.val (.ref a1), .val (.int (1 : Int32))] [(.int u1)])) := fun t_ k_ => p103 t_ (by
  refine X102.iaload hx (j := (1 : Int32)) (v := (.int u1)) (by rw [e102]; exact Ar104.1) (State.isArrayOf_alike hZ.alike Ar104.2.1) Ar104.2.2 hin104 hat104 (g := (mkF m 5 #[.val (.ref a1), .val (.int (1 : Int32))] [(.int (1 : Int32)), (.ref rs)])) rfl rfl (hb hby d42_5) _ ?_
  exact k_)
 obtain ⟨fs, hr, hrun, hended, hW, hsame⟩ := X102.leave (v := some (.int u1)) (fun h => by rw [Bd.returns] at h; cases h)
 refine ⟨_, _, p105 _ (retI X102 hx Bd.returns (hb hby d42_6) hr), hrun, hended, _, _, rfl, ?_, ⟨_, rfl⟩, hW, hsame.mono (by decide) (by decide)⟩
 show Q42_1 Z a1 rs krs u0 u1 h0 n0 _ T102.heap _
 rw [e102]
 exact ⟨rfl, N0, rfl⟩
theorem pd21 : parseMethodDescriptor "(Ljava/lang/String;I[I)V" = some ⟨[(.object "java/lang/String"), .int, (.array .int)], none⟩ := by decide +kernel
theorem pd22 : parseMethodDescriptor "(Ljava/lang/Object;)Z" = some ⟨[(.object "java/lang/Object")], some .boolean⟩ := by decide +kernel
theorem pd23 : parseMethodDescriptor "(Ljava/util/List;Ljava/util/List;)V" = some ⟨[(.object "java/util/List"), (.object "java/util/List")], none⟩ := by decide +kernel
theorem pd24 : parseMethodDescriptor "(Lcom/example/arcward/arcward/model/Instance;I)V" = some ⟨[(.object "com/example/arcward/arcward/model/Instance"), .int], none⟩ := by decide +kernel
theorem pd25 : parseMethodDescriptor "(Lcom/example/arcward/arcward/solver/Domains;II)V" = some ⟨[(.object "com/example/arcward/arcward/solver/Domains"), .int, .int], none⟩ := by decide +kernel
theorem pn0 : plainFor (⟨"com/example/arcward/arcward/solver/DomainsClearResizedPinLaw", "law", "(III)Z"⟩ : MethodName) = true := plainFor_of_name (by first | (simp [plainName, overriddenIn]; done) | decide +kernel)
theorem ef_rm0 (m : MethodId) (p1 : Int32) (p2 : Int32) (p3 : Int32) (de : Addr) (kde : ClassId) (el : Addr) (ea : Addr) (kea : ClassId) (em : Addr) (mr : Addr) : entryFrame m #[(.int p1), (.int p2), (.int p3)] maxLocals = mkF m 0 #[.val (.int p1), .val (.int p2), .val (.int p3), .unset, .unset, .unset, .unset, .unset, .unset, .unset, .unset, .unset] [] := by first | (simp [entryFrame, mkF, argsToLocals, Value.category, maxLocals]; done) | rfl
def Q0 (Z : State) (p1 : Int32) (p2 : Int32) (p3 : Int32) (de : Addr) (kde : ClassId) (el : Addr) (ea : Addr) (kea : ClassId) (em : Addr) (mr : Addr) (h0 : Heap) (n0 : Nat) (v : Option Value) (h : Heap) (L : List Loc) : Prop := v = some (.int (1 : Int32)) ∧ Fr n0 L
set_option maxRecDepth 65536 in
set_option maxHeartbeats 40000000 in
theorem rm0 (l : Launch) (Z : State) (a0 : Array Value) (hw : ∀ d ∈ tables_1, d.before a0 Z = true) (ws : List Jvm.Cond) (p1 : Int32) (p2 : Int32) (p3 : Int32) (de : Addr) (kde : ClassId) (el : Addr) (ea : Addr) (kea : ClassId) (em : Addr) (mr : Addr) (h0 : Heap) (n0 : Nat) (Z0 : n0 ≤ h0.size) (O1 : Old Z n0 h0) (G : own_H Z de kde el ea kea em mr) :
  MetFree l x (head1 (Jvm.Cond.code x code maxLocals ret :: ws) room_1) (fun a U => a = #[(.int p1), (.int p2), (.int p3)] ∧ Z.Warmed39 U.vm ∧ U.heap = h0 ∧ IB Z U.vm []) (fun _ _ _ _ _ => True) (fun _ U o U' => ∃ v L, o = .returned v ∧ Q0 Z p1 p2 p3 de kde el ea kea em mr h0 n0 v U'.heap L ∧ ReturnedEndW U o U' L room_1.cells room_1.slots) := by
 refine MetFree.of_bodySF pn0 hisR ?_
 intro p e s m args below meth c s₁ Bd hml0 hP hK
 obtain ⟨rfl, hZ, hh, I0⟩ := hP
 have hx := Bd.exec
 have hby := Bd.bytes
 have hml : c.maxLocals = 12 := hml0
 have hown : s.vm.findClass "com/example/arcward/arcward/solver/DomainsClearResizedPinLaw" = some m.cls := findClass_of_methodNamed Bd.named
 have hnm := (name_of_methodNamed Bd.named Bd.method).1
 have X0 : Stand p l e room_1 s m #[(.int p1), (.int p2), (.int p3)] below meth c s₁ [] 0 0 := Stand.of_body Bd
 have e0 : s₁.heap = h0 := by rw [← hh, Bd.state]; rfl
 have N0 := Fr.nil n0
 have p0 : Go p.tables e below (s₁.setTop (entryFrame m #[(.int p1), (.int p2), (.int p3)] maxLocals)) (s₁.setTop (mkF m 0 #[.val (.int p1), .val (.int p2), .val (.int p3), .unset, .unset, .unset, .unset, .unset, .unset, .unset, .unset, .unset] [])) := fun t_ k_ => castTop (ef_rm0 m p1 p2 p3 de kde el ea kea em mr) k_
 have hkp : ∀ (b : Addr) (cl : Cell), Z.heap[b]? = some cl → s.heap[b]? = some cl := fun b cl q => by rw [hh]; exact O1.2.2 b cl q
 obtain ⟨T101, h101, X101, e101, E101, A101, D101, -, st101⟩ := newO X0 hx hZ hown (own_w hw 0 rfl) (own_w hw 1 rfl) (own_w hw 2 rfl) e0 (g := (mkF m 0 #[.val (.int p1), .val (.int p2), .val (.int p3), .unset, .unset, .unset, .unset, .unset, .unset, .unset, .unset, .unset] [])) rfl (hb hby at_0) (by decide) (by decide)
 obtain ⟨b101, g101⟩ : ∃ z, z = h0.size := ⟨_, rfl⟩
 rw [← g101] at A101 D101 st101
 have ge_b101 : n0 ≤ b101 := Nat.le_trans (Nat.le_trans Z0 (Keep.refl h0 []).1) (Nat.le_of_eq g101.symm)
 have sz_b101 : h0.size ≤ b101 := Nat.le_trans (Keep.refl h0 []).1 (Nat.le_of_eq g101.symm)
 have K102 : Keep h0 h101 [] := (Keep.refl h0 []).ext E101
 have F101_modCount : Fld Z h101 b101 "java/util/AbstractList" "modCount" "I" (.int (0 : Int32)) := D101 (Or.inl (own_w hw 22 rfl)) (ty := .int) (by decide)
 have F101_elementData : Fld Z h101 b101 "java/util/ArrayList" "elementData" "[Ljava/lang/Object;" .null := D101 (Or.inl (own_w hw 25 rfl)) (ty := (.array (.object "java/lang/Object"))) (by decide)
 have F101_size : Fld Z h101 b101 "java/util/ArrayList" "size" "I" (.int (0 : Int32)) := D101 (Or.inl (own_w hw 65 rfl)) (ty := .int) (by decide)
 have p103 : Go p.tables e below _ (T101.setTop (mkF m 4 #[.val (.int p1), .val (.int p2), .val (.int p3), .unset, .unset, .unset, .unset, .unset, .unset, .unset, .unset, .unset] [(.ref b101), (.ref b101)])) := fun t_ k_ => (gc p0 st101) t_ (by
  refine XS.dup X101.here hx rfl (hb hby at_3) rfl rfl ?_
  exact k_)
 have f104 := (O1.ext E101)
 obtain ⟨_, _, ⟨T105, L105, k105, n105⟩, -, X105, ⟨Lc105, hQ105, l105, y105, z105⟩, st105⟩ := X101.specialBack hx (y := (⟨"java/util/ArrayList", "<init>", "()V"⟩ : MethodName)) rfl hown (mvT hZ (own_w hw 3 rfl)) (mvT hZ (own_w hw 4 rfl)) (mvT hZ (own_w hw 5 rfl)) (by decide) (backOf (W := 1) (rm1 l Z a0 hw [] b101 de kde el ea kea em mr h101 n0 (Nat.le_trans Z0 K102.1) f104 G A101 F101_modCount F101_elementData F101_size ge_b101) hZ (own_w hw 5 rfl) (own_w hw 2 rfl) (by decide) (by decide)) (g := (mkF m 4 #[.val (.int p1), .val (.int p2), .val (.int p3), .unset, .unset, .unset, .unset, .unset, .unset, .unset, .unset, .unset] [(.ref b101), (.ref b101)])) rfl (by rw [hml]; rfl) (Steps.refl _) (a := b101) (argsL := []) (rest := [(.ref b101)]) (lenOf pd0 rfl) rfl (by show 2 * 0 + _ ≤ _; exact Nat.le_of_eq rfl) (hb hby at_4) (fun _ _ => ⟨rfl, e101, (by decide : 1 + 0 ≤ _), (by decide : 3 + 0 ≤ _)⟩)
 dsimp only [Pt.U, Pt.locs, Pt.cells, Pt.slots] at X105 l105 y105 z105 st105 hQ105
 subst l105 y105 z105
 obtain ⟨rfl, N105q, q105_K, q105_F0, q105_F1, q105_F2, q105_F3⟩ := hQ105
 have N105 := Fr.app N0 N105q
 have K106 : Keep h0 T105.heap [] := K102.trans q105_K (allS (Or.inr sz_b101) all0)
 have p107 : Go p.tables e below _ (T105.setTop (mkF m 9 #[.val (.int p1), .val (.int p2), .val (.int p3), .val (.ref b101), .unset, .unset, .unset, .unset, .unset, .unset, .unset, .unset] [(.ref b101)])) := fun t_ k_ => (gcT p103 st105) t_ (by
  refine XS.astoreN X105.here hx rfl (hb hby at_7) rfl rfl (l' := #[.val (.int p1), .val (.int p2), .val (.int p3), .val (.ref b101), .unset, .unset, .unset, .unset, .unset, .unset, .unset, .unset]) rfl ?_
  refine XS.aloadN X105.here hx rfl (hb hby at_8) rfl rfl ?_
  exact k_)
 obtain ⟨T108, h108, X108, e108, E108, A108, D108, -, st108⟩ := newO X105 hx hZ hown (own_w hw 26 rfl) (own_w hw 27 rfl) (own_w hw 28 rfl) rfl (g := (mkF m 9 #[.val (.int p1), .val (.int p2), .val (.int p3), .val (.ref b101), .unset, .unset, .unset, .unset, .unset, .unset, .unset, .unset] [(.ref b101)])) rfl (hb hby at_9) (by decide) (by decide)
 obtain ⟨b108, g108⟩ : ∃ z, z = T105.heap.size := ⟨_, rfl⟩
 rw [← g108] at A108 D108 st108
 have ne_b101_b108 : b101 ≠ b108 := Nat.ne_of_lt (Nat.lt_of_lt_of_le q105_F0.lt (Nat.le_of_eq g108.symm))
 have ge_b108 : n0 ≤ b108 := Nat.le_trans (Nat.le_trans Z0 K106.1) (Nat.le_of_eq g108.symm)
 have sz_b108 : h0.size ≤ b108 := Nat.le_trans K106.1 (Nat.le_of_eq g108.symm)
 have K109 : Keep h0 h108 [] := K106.ext E108
 have F108_name : Fld Z h108 b108 "com/example/arcward/arcward/model/Variable" "name" "Ljava/lang/String;" .null := D108 (Or.inr (own_w hw 43 rfl)) (ty := (.object "java/lang/String")) (by decide)
 have F108_index : Fld Z h108 b108 "com/example/arcward/arcward/model/Variable" "index" "I" (.int (0 : Int32)) := D108 (Or.inr (own_w hw 45 rfl)) (ty := .int) (by decide)
 have F108_values : Fld Z h108 b108 "com/example/arcward/arcward/model/Variable" "values" "[I" .null := D108 (Or.inr (own_w hw 56 rfl)) (ty := (.array .int)) (by decide)
 have p110 : Go p.tables e below _ (T108.setTop (mkF m 13 #[.val (.int p1), .val (.int p2), .val (.int p3), .val (.ref b101), .unset, .unset, .unset, .unset, .unset, .unset, .unset, .unset] [(.ref b108), (.ref b108), (.ref b101)])) := fun t_ k_ => (gc p107 st108) t_ (by
  refine XS.dup X108.here hx rfl (hb hby at_12) rfl rfl ?_
  exact k_)
 obtain ⟨b111, T111, h111, k111, X111, e111, E111, S111, kb111, hZ111, hown111, st111⟩ := ldcS (s := s) (vm0 := s.vm) X108 hx hZ hown (own_w hw 29 rfl) (own_sA hw) e108 ((State.WarmedH.refl s).since 0) (Nat.zero_le _) (g := (mkF m 13 #[.val (.int p1), .val (.int p2), .val (.int p3), .val (.ref b101), .unset, .unset, .unset, .unset, .unset, .unset, .unset, .unset] [(.ref b108), (.ref b108), (.ref b101)])) rfl (hb hby at_13) (n := 4) (by decide) (by decide) (by decide) (by decide)
 have K112 : Keep h0 h111 [] := K109.ext E111
 have p113 : Go p.tables e below _ (T111.setTop (mkF m 17 #[.val (.int p1), .val (.int p2), .val (.int p3), .val (.ref b101), .unset, .unset, .unset, .unset, .unset, .unset, .unset, .unset] [(.int (2 : Int32)), (.int (0 : Int32)), (.ref b111), (.ref b108), (.ref b108), (.ref b101)])) := fun t_ k_ => (gc p110 st111) t_ (by
  refine XS.iconst X111.here hx rfl (hb hby at_15) ?_
  refine XS.iconst X111.here hx rfl (hb hby at_16) ?_
  exact k_)
 obtain ⟨T114, h114, k114, X114, e114, E114, A114, AE114, st114⟩ := newPE X111 hx hZ111 (own_w hw 37 rfl) e111 (g := (mkF m 17 #[.val (.int p1), .val (.int p2), .val (.int p3), .val (.ref b101), .unset, .unset, .unset, .unset, .unset, .unset, .unset, .unset] [(.int (2 : Int32)), (.int (0 : Int32)), (.ref b111), (.ref b108), (.ref b108), (.ref b101)])) rfl (hb hby at_17) rfl (by decide) (cap := 2) (by decide) (by decide) (by decide) (by decide) (ad := "[I") (by decide)
 obtain ⟨b114, g114⟩ : ∃ z, z = h111.size := ⟨_, rfl⟩
 rw [← g114] at A114 AE114 st114
 have f115 := ((q105_F0.ext E108).ext E111)
 have ne_b101_b114 : b101 ≠ b114 := Nat.ne_of_lt (Nat.lt_of_lt_of_le f115.lt (Nat.le_of_eq g114.symm))
 have f116 := (A108.ext E111)
 have ne_b108_b114 : b108 ≠ b114 := Nat.ne_of_lt (Nat.lt_of_lt_of_le f116.lt (Nat.le_of_eq g114.symm))
 have ge_b114 : n0 ≤ b114 := Nat.le_trans (Nat.le_trans Z0 K112.1) (Nat.le_of_eq g114.symm)
 have sz_b114 : h0.size ≤ b114 := Nat.le_trans K112.1 (Nat.le_of_eq g114.symm)
 have K117 : Keep h0 h114 [] := K112.ext E114
 have V114 : Arv Z h114 b114 k114 .int (2 : Int32) [(.int (0 : Int32)), (.int (0 : Int32))] (.int (0 : Int32)) := (Arv.new A114 (by decide)).pad (pad_rep [] (.int (0 : Int32)) 2)
 have p118 : Go p.tables e below _ (T114.setTop (mkF m 22 #[.val (.int p1), .val (.int p2), .val (.int p3), .val (.ref b101), .unset, .unset, .unset, .unset, .unset, .unset, .unset, .unset] [(.int (0 : Int32)), (.int (0 : Int32)), (.ref b114), (.ref b114), (.int (0 : Int32)), (.ref b111), (.ref b108), (.ref b108), (.ref b101)])) := fun t_ k_ => (gc p113 st114) t_ (by
  refine XS.dup X114.here hx rfl (hb hby at_19) rfl rfl ?_
  refine XS.iconst X114.here hx rfl (hb hby at_20) ?_
  refine XS.iconst X114.here hx rfl (hb hby at_21) ?_
  exact k_)
 obtain ⟨cl119, Ar119, q119, S119, Ng119, H119, G119⟩ := id V114
 have hin119 := inb_of S119 (j := (0 : Int32)) ⟨by decide, by decide⟩
 obtain ⟨T119, h119, X119, e119, W119, st119⟩ := stI X114 hx hZ111 e114 Ar119 (j := (0 : Int32)) hin119 (g := (mkF m 22 #[.val (.int p1), .val (.int p2), .val (.int p3), .val (.ref b101), .unset, .unset, .unset, .unset, .unset, .unset, .unset, .unset] [(.int (0 : Int32)), (.int (0 : Int32)), (.ref b114), (.ref b114), (.int (0 : Int32)), (.ref b111), (.ref b108), (.ref b108), (.ref b101)])) rfl rfl (hb hby at_22)
 have K120 : Keep h0 h119 [] := K117.wr W119 (Or.inr sz_b114)
 have N119 := Fr.snoc X119 N105 ge_b114
 have V119 : Arv Z h119 b114 k114 .int (2 : Int32) [(.int (0 : Int32)), (.int (0 : Int32))] (.int (0 : Int32)) := Arv.set Ar119 q119 S119 Ng119 H119 G119 rfl W119 0 rfl (Nat.le_of_ble_eq_true rfl)
 have p121 : Go p.tables e below _ (T119.setTop (mkF m 26 #[.val (.int p1), .val (.int p2), .val (.int p3), .val (.ref b101), .unset, .unset, .unset, .unset, .unset, .unset, .unset, .unset] [(.int (1 : Int32)), (.int (1 : Int32)), (.ref b114), (.ref b114), (.int (0 : Int32)), (.ref b111), (.ref b108), (.ref b108), (.ref b101)])) := fun t_ k_ => (gc p118 st119) t_ (by
  refine XS.dup X119.here hx rfl (hb hby at_23) rfl rfl ?_
  refine XS.iconst X119.here hx rfl (hb hby at_24) ?_
  refine XS.iconst X119.here hx rfl (hb hby at_25) ?_
  exact k_)
 obtain ⟨cl122, Ar122, q122, S122, Ng122, H122, G122⟩ := id V119
 have hin122 := inb_of S122 (j := (1 : Int32)) ⟨by decide, by decide⟩
 obtain ⟨T122, h122, X122, e122, W122, st122⟩ := stI X119 hx hZ111 e119 Ar122 (j := (1 : Int32)) hin122 (g := (mkF m 26 #[.val (.int p1), .val (.int p2), .val (.int p3), .val (.ref b101), .unset, .unset, .unset, .unset, .unset, .unset, .unset, .unset] [(.int (1 : Int32)), (.int (1 : Int32)), (.ref b114), (.ref b114), (.int (0 : Int32)), (.ref b111), (.ref b108), (.ref b108), (.ref b101)])) rfl rfl (hb hby at_26)
 have K123 : Keep h0 h122 [] := K120.wr W122 (Or.inr sz_b114)
 have N122 := Fr.snoc X122 N119 ge_b114
 have V122 : Arv Z h122 b114 k114 .int (2 : Int32) [(.int (0 : Int32)), (.int (1 : Int32))] (.int (0 : Int32)) := Arv.set Ar122 q122 S122 Ng122 H122 G122 rfl W122 1 rfl (Nat.le_of_ble_eq_true rfl)
 have f124 := (((f115.ext E114).wr W119).wr W122)
 have f125 := (((f116.ext E114).wr W119).wr W122)
 have f126 := ((AE114.wr W119).wr W122)
 have f127 := ((((F108_name.ext E111).ext E114).other W119 (Or.inl ne_b108_b114)).other W122 (Or.inl ne_b108_b114))
 have f128 := ((((F108_index.ext E111).ext E114).other W119 (Or.inl ne_b108_b114)).other W122 (Or.inl ne_b108_b114))
 have f129 := ((((F108_values.ext E111).ext E114).other W119 (Or.inl ne_b108_b114)).other W122 (Or.inl ne_b108_b114))
 obtain ⟨_, _, ⟨T130, L130, k130, n130⟩, -, X130, ⟨Lc130, hQ130, l130, y130, z130⟩, st130⟩ := X122.specialBack hx (y := (⟨"com/example/arcward/arcward/model/Variable", "<init>", "(Ljava/lang/String;I[I)V"⟩ : MethodName)) rfl hown111 (mvT hZ111 (own_w hw 38 rfl)) (mvT hZ111 (own_w hw 39 rfl)) (mvT hZ111 (own_w hw 40 rfl)) (by decide) (backOf (W := 2) (rm5_2 l Z a0 hw [] b108 b111 (0 : Int32) b114 k114 h122 n0 (Nat.le_trans Z0 K123.1) f125 f127 f128 f129 ge_b108 V122 f126 ne_b108_b114) hZ111 (own_w hw 40 rfl) (own_w hw 28 rfl) (by decide) (by decide)) (g := (mkF m 27 #[.val (.int p1), .val (.int p2), .val (.int p3), .val (.ref b101), .unset, .unset, .unset, .unset, .unset, .unset, .unset, .unset] [(.ref b114), (.int (0 : Int32)), (.ref b111), (.ref b108), (.ref b108), (.ref b101)])) rfl (by rw [hml]; rfl) (Steps.refl _) (a := b108) (argsL := [(.ref b111), (.int (0 : Int32)), (.ref b114)]) (rest := [(.ref b108), (.ref b101)]) (lenOf pd21 rfl) rfl (by show 2 * 0 + _ ≤ _; exact Nat.le_of_eq rfl) (hb hby at_27) (fun _ _ => ⟨rfl, e122, (by decide : 5 + 1 ≤ _), (by decide : 16 + 2 ≤ _)⟩)
 dsimp only [Pt.U, Pt.locs, Pt.cells, Pt.slots] at X130 l130 y130 z130 st130 hQ130
 subst l130 y130 z130
 obtain ⟨x131, x132, rfl, N130q, q130_K, q130_F0, q130_F1, q130_F2, q130_F3, q130_V, q130_g, q130_z, q130_n⟩ := hQ130
 have N130 := Fr.app N122 N130q
 have K133 : Keep h0 T130.heap [] := K123.trans q130_K (allS (Or.inr sz_b108) all0)
 have ne_b101_x131 : b101 ≠ x131 := Nat.ne_of_lt (Nat.lt_of_lt_of_le f124.lt q130_z)
 have ne_b108_x131 : b108 ≠ x131 := Nat.ne_of_lt (Nat.lt_of_lt_of_le f125.lt q130_z)
 have ne_b114_x131 : b114 ≠ x131 := Nat.ne_of_lt (Nat.lt_of_lt_of_le f126.lt q130_z)
 have f134 := (f124.keep q130_K)
 have f135 := (f126.keep q130_K)
 have f136 := (V122.keep q130_K (ninS (Ne.symm ne_b108_b114) nin0))
 have f137 := (((((((f104.keep q105_K (allS ge_b101 all0)).ext E108).ext E111).ext E114).wr W119 ge_b114).wr W122 ge_b114).keep q130_K (allS ge_b108 all0))
 have f138 := ((((((q105_F1.ext E108).ext E111).ext E114).other W119 (Or.inl ne_b101_b114)).other W122 (Or.inl ne_b101_b114)).keep q130_K (ninS ne_b101_b108 nin0))
 have f139 := ((((((q105_F2.ext E108).ext E111).ext E114).other W119 (Or.inl ne_b101_b114)).other W122 (Or.inl ne_b101_b114)).keep q130_K (ninS ne_b101_b108 nin0))
 have f140 := ((((((q105_F3.ext E108).ext E111).ext E114).other W119 (Or.inl ne_b101_b114)).other W122 (Or.inl ne_b101_b114)).keep q130_K (ninS ne_b101_b108 nin0))
 obtain ⟨cq141, kq141, q141a, q141b, q141c⟩ := isOf hZ111 rfl f134
 obtain ⟨_, _, ⟨T141, L141, k141, n141⟩, -, X141, ⟨Lc141, hQ141, l141, y141, z141⟩, st141⟩ := X130.virtualBack hx (y := (⟨"java/util/ArrayList", "add", "(Ljava/lang/Object;)Z"⟩ : MethodName)) (z := (⟨"java/util/ArrayList", "add", "(Ljava/lang/Object;)Z"⟩ : MethodName)) hown111 (mvT hZ111 (own_w hw 57 rfl)) (mvT hZ111 (own_w hw 58 rfl)) (notFace_of_selects (args := #[]) (mvT hZ111 (own_w hw 60 rfl))) (mvT hZ111 (own_w hw 60 rfl)) (mvT hZ111 (own_w hw 59 rfl)) (by decide) (backOf (W := 0) (rm6_0 l Z a0 hw [] b101 b108 (0 : Int32) de kde el ea kea em mr T130.heap n0 (Nat.le_trans Z0 K133.1) f137 G f134 f138 f139 f140 ge_b101 q130_F0 ne_b101_b108) hZ111 (own_w hw 61 rfl) (own_w hw 2 rfl) (by decide) (by decide)) q141a q141c (g := (mkF m 30 #[.val (.int p1), .val (.int p2), .val (.int p3), .val (.ref b101), .unset, .unset, .unset, .unset, .unset, .unset, .unset, .unset] [(.ref b108), (.ref b101)])) rfl (by rw [hml]; rfl) (Steps.refl _) (argsL := [(.ref b108)]) (rest := []) (lenOf pd22 rfl) rfl (by show 2 * 0 + _ ≤ _; exact Nat.le_of_eq rfl) (hb hby at_30) (fun _ _ => ⟨rfl, rfl, (by decide : 6 + 1 ≤ _), (by decide : 18 + 10 ≤ _)⟩)
 dsimp only [Pt.U, Pt.locs, Pt.cells, Pt.slots] at X141 l141 y141 z141 st141 hQ141
 subst l141 y141 z141
 obtain ⟨x142, x143, rfl, N141q, q141_K, q141_F0, q141_F1, q141_F2, q141_F3, q141_V, q141_X, q141_g, q141_z, q141_n, q141_o⟩ := hQ141
 have N141 := Fr.app N130 N141q
 have K144 : Keep h0 T141.heap [] := K133.trans q141_K (allS (Or.inr sz_b101) all0)
 have ne_b101_x142 : b101 ≠ x142 := Nat.ne_of_lt (Nat.lt_of_lt_of_le f134.lt q141_z)
 have ne_b108_x142 : b108 ≠ x142 := Nat.ne_of_lt (Nat.lt_of_lt_of_le q130_F0.lt q141_z)
 have ne_b114_x142 : b114 ≠ x142 := Nat.ne_of_lt (Nat.lt_of_lt_of_le f135.lt q141_z)
 have ne_x131_x142 : x131 ≠ x142 := Nat.ne_of_lt (Nat.lt_of_lt_of_le q130_V.lt q141_z)
 have p145 : Go p.tables e below _ (T141.setTop (mkF m 35 #[.val (.int p1), .val (.int p2), .val (.int p3), .val (.ref b101), .unset, .unset, .unset, .unset, .unset, .unset, .unset, .unset] [(.ref b101)])) := fun t_ k_ => (gcT (gcT (gc p121 st122) st130) st141) t_ (by
  refine XS.pop X141.here hx rfl (hb hby at_33) rfl rfl ?_
  refine XS.aloadN X141.here hx rfl (hb hby at_34) rfl rfl ?_
  exact k_)
 obtain ⟨T146, h146, X146, e146, E146, A146, D146, -, st146⟩ := newO X141 hx hZ111 hown111 (own_w hw 26 rfl) (own_w hw 27 rfl) (own_w hw 28 rfl) rfl (g := (mkF m 35 #[.val (.int p1), .val (.int p2), .val (.int p3), .val (.ref b101), .unset, .unset, .unset, .unset, .unset, .unset, .unset, .unset] [(.ref b101)])) rfl (hb hby at_35) (by decide) (by decide)
 obtain ⟨b146, g146⟩ : ∃ z, z = T141.heap.size := ⟨_, rfl⟩
 rw [← g146] at A146 D146 st146
 have ne_b101_b146 : b101 ≠ b146 := Nat.ne_of_lt (Nat.lt_of_lt_of_le q141_F0.lt (Nat.le_of_eq g146.symm))
 have f147 := (q130_F0.keep q141_K)
 have ne_b108_b146 : b108 ≠ b146 := Nat.ne_of_lt (Nat.lt_of_lt_of_le f147.lt (Nat.le_of_eq g146.symm))
 have f148 := (f135.keep q141_K)
 have ne_b114_b146 : b114 ≠ b146 := Nat.ne_of_lt (Nat.lt_of_lt_of_le f148.lt (Nat.le_of_eq g146.symm))
 have f149 := (q130_V.keep q141_K (ninS (Ne.symm ne_b101_x131) nin0))
 have ne_x131_b146 : x131 ≠ b146 := Nat.ne_of_lt (Nat.lt_of_lt_of_le f149.lt (Nat.le_of_eq g146.symm))
 have ne_x142_b146 : x142 ≠ b146 := Nat.ne_of_lt (Nat.lt_of_lt_of_le q141_V.lt (Nat.le_of_eq g146.symm))
 have ge_b146 : n0 ≤ b146 := Nat.le_trans (Nat.le_trans Z0 K144.1) (Nat.le_of_eq g146.symm)
 have sz_b146 : h0.size ≤ b146 := Nat.le_trans K144.1 (Nat.le_of_eq g146.symm)
 have K150 : Keep h0 h146 [] := K144.ext E146
 have F146_name : Fld Z h146 b146 "com/example/arcward/arcward/model/Variable" "name" "Ljava/lang/String;" .null := D146 (Or.inr (own_w hw 43 rfl)) (ty := (.object "java/lang/String")) (by decide)
 have F146_index : Fld Z h146 b146 "com/example/arcward/arcward/model/Variable" "index" "I" (.int (0 : Int32)) := D146 (Or.inr (own_w hw 45 rfl)) (ty := .int) (by decide)
 have F146_values : Fld Z h146 b146 "com/example/arcward/arcward/model/Variable" "values" "[I" .null := D146 (Or.inr (own_w hw 56 rfl)) (ty := (.array .int)) (by decide)
 have p151 : Go p.tables e below _ (T146.setTop (mkF m 39 #[.val (.int p1), .val (.int p2), .val (.int p3), .val (.ref b101), .unset, .unset, .unset, .unset, .unset, .unset, .unset, .unset] [(.ref b146), (.ref b146), (.ref b101)])) := fun t_ k_ => (gc p145 st146) t_ (by
  refine XS.dup X146.here hx rfl (hb hby at_38) rfl rfl ?_
  exact k_)
 have f153 := (Nat.le_trans (Nat.le_trans (Nat.le_trans (Nat.le_trans (Nat.le_trans (Nat.le_trans kb111 E114.1) (Keep.of_wr W119).1) (Keep.of_wr W122).1) q130_K.1) q141_K.1) E146.1)
 obtain ⟨b152, T152, h152, k152, X152, e152, E152, S152, kb152, hZ152, hown152, st152⟩ := ldcS (s := s) (vm0 := T111.vm) X146 hx hZ111 hown111 (own_w hw 88 rfl) (own_sA hw) e146 S111 f153 (g := (mkF m 39 #[.val (.int p1), .val (.int p2), .val (.int p3), .val (.ref b101), .unset, .unset, .unset, .unset, .unset, .unset, .unset, .unset] [(.ref b146), (.ref b146), (.ref b101)])) rfl (hb hby at_39) (n := 4) (by decide) (by decide) (by decide) (by decide)
 have K154 : Keep h0 h152 [] := K150.ext E152
 have p155 : Go p.tables e below _ (T152.setTop (mkF m 43 #[.val (.int p1), .val (.int p2), .val (.int p3), .val (.ref b101), .unset, .unset, .unset, .unset, .unset, .unset, .unset, .unset] [(.int (2 : Int32)), (.int (1 : Int32)), (.ref b152), (.ref b146), (.ref b146), (.ref b101)])) := fun t_ k_ => (gc p151 st152) t_ (by
  refine XS.iconst X152.here hx rfl (hb hby at_41) ?_
  refine XS.iconst X152.here hx rfl (hb hby at_42) ?_
  exact k_)
 obtain ⟨T156, h156, k156, X156, e156, E156, A156, AE156, st156⟩ := newPE X152 hx hZ152 (own_w hw 37 rfl) e152 (g := (mkF m 43 #[.val (.int p1), .val (.int p2), .val (.int p3), .val (.ref b101), .unset, .unset, .unset, .unset, .unset, .unset, .unset, .unset] [(.int (2 : Int32)), (.int (1 : Int32)), (.ref b152), (.ref b146), (.ref b146), (.ref b101)])) rfl (hb hby at_43) rfl (by decide) (cap := 2) (by decide) (by decide) (by decide) (by decide) (ad := "[I") (by decide)
 obtain ⟨b156, g156⟩ : ∃ z, z = h152.size := ⟨_, rfl⟩
 rw [← g156] at A156 AE156 st156
 have f157 := ((q141_F0.ext E146).ext E152)
 have ne_b101_b156 : b101 ≠ b156 := Nat.ne_of_lt (Nat.lt_of_lt_of_le f157.lt (Nat.le_of_eq g156.symm))
 have f158 := ((f147.ext E146).ext E152)
 have ne_b108_b156 : b108 ≠ b156 := Nat.ne_of_lt (Nat.lt_of_lt_of_le f158.lt (Nat.le_of_eq g156.symm))
 have f159 := ((f148.ext E146).ext E152)
 have ne_b114_b156 : b114 ≠ b156 := Nat.ne_of_lt (Nat.lt_of_lt_of_le f159.lt (Nat.le_of_eq g156.symm))
 have f160 := ((f149.ext E146).ext E152)
 have ne_x131_b156 : x131 ≠ b156 := Nat.ne_of_lt (Nat.lt_of_lt_of_le f160.lt (Nat.le_of_eq g156.symm))
 have f161 := ((q141_V.ext E146).ext E152)
 have ne_x142_b156 : x142 ≠ b156 := Nat.ne_of_lt (Nat.lt_of_lt_of_le f161.lt (Nat.le_of_eq g156.symm))
 have f162 := (A146.ext E152)
 have ne_b146_b156 : b146 ≠ b156 := Nat.ne_of_lt (Nat.lt_of_lt_of_le f162.lt (Nat.le_of_eq g156.symm))
 have ge_b156 : n0 ≤ b156 := Nat.le_trans (Nat.le_trans Z0 K154.1) (Nat.le_of_eq g156.symm)
 have sz_b156 : h0.size ≤ b156 := Nat.le_trans K154.1 (Nat.le_of_eq g156.symm)
 have K163 : Keep h0 h156 [] := K154.ext E156
 have V156 : Arv Z h156 b156 k156 .int (2 : Int32) [(.int (0 : Int32)), (.int (0 : Int32))] (.int (0 : Int32)) := (Arv.new A156 (by decide)).pad (pad_rep [] (.int (0 : Int32)) 2)
 have p164 : Go p.tables e below _ (T156.setTop (mkF m 48 #[.val (.int p1), .val (.int p2), .val (.int p3), .val (.ref b101), .unset, .unset, .unset, .unset, .unset, .unset, .unset, .unset] [(.int (0 : Int32)), (.int (0 : Int32)), (.ref b156), (.ref b156), (.int (1 : Int32)), (.ref b152), (.ref b146), (.ref b146), (.ref b101)])) := fun t_ k_ => (gc p155 st156) t_ (by
  refine XS.dup X156.here hx rfl (hb hby at_45) rfl rfl ?_
  refine XS.iconst X156.here hx rfl (hb hby at_46) ?_
  refine XS.iconst X156.here hx rfl (hb hby at_47) ?_
  exact k_)
 obtain ⟨cl165, Ar165, q165, S165, Ng165, H165, G165⟩ := id V156
 have hin165 := inb_of S165 (j := (0 : Int32)) ⟨by decide, by decide⟩
 obtain ⟨T165, h165, X165, e165, W165, st165⟩ := stI X156 hx hZ152 e156 Ar165 (j := (0 : Int32)) hin165 (g := (mkF m 48 #[.val (.int p1), .val (.int p2), .val (.int p3), .val (.ref b101), .unset, .unset, .unset, .unset, .unset, .unset, .unset, .unset] [(.int (0 : Int32)), (.int (0 : Int32)), (.ref b156), (.ref b156), (.int (1 : Int32)), (.ref b152), (.ref b146), (.ref b146), (.ref b101)])) rfl rfl (hb hby at_48)
 have K166 : Keep h0 h165 [] := K163.wr W165 (Or.inr sz_b156)
 have N165 := Fr.snoc X165 N141 ge_b156
 have V165 : Arv Z h165 b156 k156 .int (2 : Int32) [(.int (0 : Int32)), (.int (0 : Int32))] (.int (0 : Int32)) := Arv.set Ar165 q165 S165 Ng165 H165 G165 rfl W165 0 rfl (Nat.le_of_ble_eq_true rfl)
 have p167 : Go p.tables e below _ (T165.setTop (mkF m 52 #[.val (.int p1), .val (.int p2), .val (.int p3), .val (.ref b101), .unset, .unset, .unset, .unset, .unset, .unset, .unset, .unset] [(.int (1 : Int32)), (.int (1 : Int32)), (.ref b156), (.ref b156), (.int (1 : Int32)), (.ref b152), (.ref b146), (.ref b146), (.ref b101)])) := fun t_ k_ => (gc p164 st165) t_ (by
  refine XS.dup X165.here hx rfl (hb hby at_49) rfl rfl ?_
  refine XS.iconst X165.here hx rfl (hb hby at_50) ?_
  refine XS.iconst X165.here hx rfl (hb hby at_51) ?_
  exact k_)
 obtain ⟨cl168, Ar168, q168, S168, Ng168, H168, G168⟩ := id V165
 have hin168 := inb_of S168 (j := (1 : Int32)) ⟨by decide, by decide⟩
 obtain ⟨T168, h168, X168, e168, W168, st168⟩ := stI X165 hx hZ152 e165 Ar168 (j := (1 : Int32)) hin168 (g := (mkF m 52 #[.val (.int p1), .val (.int p2), .val (.int p3), .val (.ref b101), .unset, .unset, .unset, .unset, .unset, .unset, .unset, .unset] [(.int (1 : Int32)), (.int (1 : Int32)), (.ref b156), (.ref b156), (.int (1 : Int32)), (.ref b152), (.ref b146), (.ref b146), (.ref b101)])) rfl rfl (hb hby at_52)
 have K169 : Keep h0 h168 [] := K166.wr W168 (Or.inr sz_b156)
 have N168 := Fr.snoc X168 N165 ge_b156
 have V168 : Arv Z h168 b156 k156 .int (2 : Int32) [(.int (0 : Int32)), (.int (1 : Int32))] (.int (0 : Int32)) := Arv.set Ar168 q168 S168 Ng168 H168 G168 rfl W168 1 rfl (Nat.le_of_ble_eq_true rfl)
 have f170 := (((f157.ext E156).wr W165).wr W168)
 have f171 := (((f158.ext E156).wr W165).wr W168)
 have f172 := (((f159.ext E156).wr W165).wr W168)
 have f173 := ((((((f136.keep q141_K (ninS (Ne.symm ne_b101_b114) nin0)).ext E146).ext E152).ext E156).other W165 ne_b114_b156).other W168 ne_b114_b156)
 have f174 := (((f160.ext E156).other W165 ne_x131_b156).other W168 ne_x131_b156)
 have f175 := (((f161.ext E156).other W165 ne_x142_b156).other W168 ne_x142_b156)
 have f176 := (((((q141_X.ext E146).ext E152).ext E156).wr W165).wr W168)
 have f177 := (((f162.ext E156).wr W165).wr W168)
 have f178 := ((AE156.wr W165).wr W168)
 have f179 := ((((F146_name.ext E152).ext E156).other W165 (Or.inl ne_b146_b156)).other W168 (Or.inl ne_b146_b156))
 have f180 := ((((F146_index.ext E152).ext E156).other W165 (Or.inl ne_b146_b156)).other W168 (Or.inl ne_b146_b156))
 have f181 := ((((F146_values.ext E152).ext E156).other W165 (Or.inl ne_b146_b156)).other W168 (Or.inl ne_b146_b156))
 obtain ⟨_, _, ⟨T182, L182, k182, n182⟩, -, X182, ⟨Lc182, hQ182, l182, y182, z182⟩, st182⟩ := X168.specialBack hx (y := (⟨"com/example/arcward/arcward/model/Variable", "<init>", "(Ljava/lang/String;I[I)V"⟩ : MethodName)) rfl hown152 (mvT hZ152 (own_w hw 38 rfl)) (mvT hZ152 (own_w hw 39 rfl)) (mvT hZ152 (own_w hw 40 rfl)) (by decide) (backOf (W := 2) (rm5_2 l Z a0 hw [] b146 b152 (1 : Int32) b156 k156 h168 n0 (Nat.le_trans Z0 K169.1) f177 f179 f180 f181 ge_b146 V168 f178 ne_b146_b156) hZ152 (own_w hw 40 rfl) (own_w hw 28 rfl) (by decide) (by decide)) (g := (mkF m 53 #[.val (.int p1), .val (.int p2), .val (.int p3), .val (.ref b101), .unset, .unset, .unset, .unset, .unset, .unset, .unset, .unset] [(.ref b156), (.int (1 : Int32)), (.ref b152), (.ref b146), (.ref b146), (.ref b101)])) rfl (by rw [hml]; rfl) (Steps.refl _) (a := b146) (argsL := [(.ref b152), (.int (1 : Int32)), (.ref b156)]) (rest := [(.ref b146), (.ref b101)]) (lenOf pd21 rfl) rfl (by show 2 * 0 + _ ≤ _; exact Nat.le_of_eq rfl) (hb hby at_53) (fun _ _ => ⟨rfl, e168, (by decide : 11 + 1 ≤ _), (by decide : 41 + 2 ≤ _)⟩)
 dsimp only [Pt.U, Pt.locs, Pt.cells, Pt.slots] at X182 l182 y182 z182 st182 hQ182
 subst l182 y182 z182
 obtain ⟨x183, x184, rfl, N182q, q182_K, q182_F0, q182_F1, q182_F2, q182_F3, q182_V, q182_g, q182_z, q182_n⟩ := hQ182
 have N182 := Fr.app N168 N182q
 have K185 : Keep h0 T182.heap [] := K169.trans q182_K (allS (Or.inr sz_b146) all0)
 have ne_b101_x183 : b101 ≠ x183 := Nat.ne_of_lt (Nat.lt_of_lt_of_le f170.lt q182_z)
 have ne_b108_x183 : b108 ≠ x183 := Nat.ne_of_lt (Nat.lt_of_lt_of_le f171.lt q182_z)
 have ne_b114_x183 : b114 ≠ x183 := Nat.ne_of_lt (Nat.lt_of_lt_of_le f172.lt q182_z)
 have ne_x131_x183 : x131 ≠ x183 := Nat.ne_of_lt (Nat.lt_of_lt_of_le f174.lt q182_z)
 have ne_x142_x183 : x142 ≠ x183 := Nat.ne_of_lt (Nat.lt_of_lt_of_le f175.lt q182_z)
 have ne_b146_x183 : b146 ≠ x183 := Nat.ne_of_lt (Nat.lt_of_lt_of_le f177.lt q182_z)
 have ne_b156_x183 : b156 ≠ x183 := Nat.ne_of_lt (Nat.lt_of_lt_of_le f178.lt q182_z)
 have f186 := (f170.keep q182_K)
 have f187 := ((((((q141_F1.ext E146).ext E152).ext E156).other W165 (Or.inl ne_b101_b156)).other W168 (Or.inl ne_b101_b156)).keep q182_K (ninS ne_b101_b146 nin0))
 have f188 := ((((((q141_F2.ext E146).ext E152).ext E156).other W165 (Or.inl ne_b101_b156)).other W168 (Or.inl ne_b101_b156)).keep q182_K (ninS ne_b101_b146 nin0))
 have f189 := ((((((q141_F3.ext E146).ext E152).ext E156).other W165 (Or.inl ne_b101_b156)).other W168 (Or.inl ne_b101_b156)).keep q182_K (ninS ne_b101_b146 nin0))
 have f190 := (f175.keep q182_K (ninS ne_x142_b146 nin0))
 have f191 := (f176.keep q182_K)
 obtain ⟨cq192, kq192, q192a, q192b, q192c⟩ := isOf hZ152 rfl f186
 obtain ⟨_, _, ⟨T192, L192, k192, n192⟩, -, X192, ⟨Lc192, hQ192, l192, y192, z192⟩, st192⟩ := X182.virtualBack hx (y := (⟨"java/util/ArrayList", "add", "(Ljava/lang/Object;)Z"⟩ : MethodName)) (z := (⟨"java/util/ArrayList", "add", "(Ljava/lang/Object;)Z"⟩ : MethodName)) hown152 (mvT hZ152 (own_w hw 57 rfl)) (mvT hZ152 (own_w hw 58 rfl)) (notFace_of_selects (args := #[]) (mvT hZ152 (own_w hw 60 rfl))) (mvT hZ152 (own_w hw 60 rfl)) (mvT hZ152 (own_w hw 59 rfl)) (by decide) (backOf (W := 0) (rm6_1 l Z a0 hw [] b101 b146 ((0 : Int32) + (1 : Int32)) x142 x143 b108 T182.heap n0 (Nat.le_trans Z0 K185.1) f186 f187 f188 f189 f190 f191 ge_b101 q141_g q141_n (Ne.symm ne_x142_b146) q141_o q182_F0 ne_b101_b146) hZ152 (own_w hw 61 rfl) (own_w hw 2 rfl) (by decide) (by decide)) q192a q192c (g := (mkF m 56 #[.val (.int p1), .val (.int p2), .val (.int p3), .val (.ref b101), .unset, .unset, .unset, .unset, .unset, .unset, .unset, .unset] [(.ref b146), (.ref b101)])) rfl (by rw [hml]; rfl) (Steps.refl _) (argsL := [(.ref b146)]) (rest := []) (lenOf pd22 rfl) rfl (by show 2 * 0 + _ ≤ _; exact Nat.le_of_eq rfl) (hb hby at_56) (fun _ _ => ⟨rfl, rfl, (by decide : 12 + 0 ≤ _), (by decide : 43 + 0 ≤ _)⟩)
 dsimp only [Pt.U, Pt.locs, Pt.cells, Pt.slots] at X192 l192 y192 z192 st192 hQ192
 subst l192 y192 z192
 obtain ⟨rfl, N192q, q192_K, q192_F0, q192_F1, q192_F2, q192_F3, q192_F4, q192_F5⟩ := hQ192
 have N192 := Fr.app N182 N192q
 have K193 : Keep h0 T192.heap [] := K185.trans q192_K (allS (Or.inr sz_b101) (allS (Or.inr (Nat.le_trans K133.1 q141_z)) all0))
 have p194 : Go p.tables e below _ (T192.setTop (mkF m 60 #[.val (.int p1), .val (.int p2), .val (.int p3), .val (.ref b101), .unset, .unset, .unset, .unset, .unset, .unset, .unset, .unset] [])) := fun t_ k_ => (gcT (gcT (gc p167 st168) st182) st192) t_ (by
  refine XS.pop X192.here hx rfl (hb hby at_59) rfl rfl ?_
  exact k_)
 obtain ⟨T195, h195, X195, e195, E195, A195, D195, -, st195⟩ := newO X192 hx hZ152 hown152 (own_w hw 89 rfl) (own_w hw 90 rfl) (own_w hw 91 rfl) rfl (g := (mkF m 60 #[.val (.int p1), .val (.int p2), .val (.int p3), .val (.ref b101), .unset, .unset, .unset, .unset, .unset, .unset, .unset, .unset] [])) rfl (hb hby at_60) (by decide) (by decide)
 obtain ⟨b195, g195⟩ : ∃ z, z = T192.heap.size := ⟨_, rfl⟩
 rw [← g195] at A195 D195 st195
 have ne_b101_b195 : b101 ≠ b195 := Nat.ne_of_lt (Nat.lt_of_lt_of_le q192_F0.lt (Nat.le_of_eq g195.symm))
 have f196 := ((f171.keep q182_K).keep q192_K)
 have ne_b108_b195 : b108 ≠ b195 := Nat.ne_of_lt (Nat.lt_of_lt_of_le f196.lt (Nat.le_of_eq g195.symm))
 have f197 := ((f172.keep q182_K).keep q192_K)
 have ne_b114_b195 : b114 ≠ b195 := Nat.ne_of_lt (Nat.lt_of_lt_of_le f197.lt (Nat.le_of_eq g195.symm))
 have f198 := ((f174.keep q182_K (ninS ne_x131_b146 nin0)).keep q192_K (ninS (Ne.symm ne_b101_x131) (ninS ne_x131_x142 nin0)))
 have ne_x131_b195 : x131 ≠ b195 := Nat.ne_of_lt (Nat.lt_of_lt_of_le f198.lt (Nat.le_of_eq g195.symm))
 have ne_x142_b195 : x142 ≠ b195 := Nat.ne_of_lt (Nat.lt_of_lt_of_le q192_F4.lt (Nat.le_of_eq g195.symm))
 have f199 := (q182_F0.keep q192_K)
 have ne_b146_b195 : b146 ≠ b195 := Nat.ne_of_lt (Nat.lt_of_lt_of_le f199.lt (Nat.le_of_eq g195.symm))
 have f200 := ((f178.keep q182_K).keep q192_K)
 have ne_b156_b195 : b156 ≠ b195 := Nat.ne_of_lt (Nat.lt_of_lt_of_le f200.lt (Nat.le_of_eq g195.symm))
 have f201 := (q182_V.keep q192_K (ninS (Ne.symm ne_b101_x183) (ninS (Ne.symm ne_x142_x183) nin0)))
 have ne_x183_b195 : x183 ≠ b195 := Nat.ne_of_lt (Nat.lt_of_lt_of_le f201.lt (Nat.le_of_eq g195.symm))
 have ge_b195 : n0 ≤ b195 := Nat.le_trans (Nat.le_trans Z0 K193.1) (Nat.le_of_eq g195.symm)
 have sz_b195 : h0.size ≤ b195 := Nat.le_trans K193.1 (Nat.le_of_eq g195.symm)
 have K202 : Keep h0 h195 [] := K193.ext E195
 have F195_trail : Fld Z h195 b195 "com/example/arcward/arcward/solver/Domains" "trail" "[I" .null := D195 (Or.inl (own_w hw 265 rfl)) (ty := (.array .int)) (by decide)
 have F195_removedBy : Fld Z h195 b195 "com/example/arcward/arcward/solver/Domains" "removedBy" "[I" .null := D195 (Or.inr (own_w hw 267 rfl)) (ty := (.array .int)) (by decide)
 have F195_bits : Fld Z h195 b195 "com/example/arcward/arcward/solver/Domains" "bits" "[[J" .null := D195 (Or.inr (own_w hw 277 rfl)) (ty := (.array (.array .long))) (by decide)
 have F195_sizes : Fld Z h195 b195 "com/example/arcward/arcward/solver/Domains" "sizes" "[I" .null := D195 (Or.inr (own_w hw 279 rfl)) (ty := (.array .int)) (by decide)
 have F195_resized : Fld Z h195 b195 "com/example/arcward/arcward/solver/Domains" "resized" "[I" .null := D195 (Or.inr (own_w hw 281 rfl)) (ty := (.array .int)) (by decide)
 have F195_inResized : Fld Z h195 b195 "com/example/arcward/arcward/solver/Domains" "inResized" "[Z" .null := D195 (Or.inr (own_w hw 284 rfl)) (ty := (.array .boolean)) (by decide)
 have F195_resizedCount : Fld Z h195 b195 "com/example/arcward/arcward/solver/Domains" "resizedCount" "I" (.int (0 : Int32)) := D195 (Or.inl (own_w hw 307 rfl)) (ty := .int) (by decide)
 have F195_trailLength : Fld Z h195 b195 "com/example/arcward/arcward/solver/Domains" "trailLength" "I" (.int (0 : Int32)) := D195 (Or.inl (own_w hw 329 rfl)) (ty := .int) (by decide)
 have p203 : Go p.tables e below _ (T195.setTop (mkF m 64 #[.val (.int p1), .val (.int p2), .val (.int p3), .val (.ref b101), .unset, .unset, .unset, .unset, .unset, .unset, .unset, .unset] [(.ref b195), (.ref b195)])) := fun t_ k_ => (gc p194 st195) t_ (by
  refine XS.dup X195.here hx rfl (hb hby at_63) rfl rfl ?_
  exact k_)
 obtain ⟨T204, h204, X204, e204, E204, A204, D204, -, st204⟩ := newO X195 hx hZ152 hown152 (own_w hw 92 rfl) (own_w hw 93 rfl) (own_w hw 94 rfl) e195 (g := (mkF m 64 #[.val (.int p1), .val (.int p2), .val (.int p3), .val (.ref b101), .unset, .unset, .unset, .unset, .unset, .unset, .unset, .unset] [(.ref b195), (.ref b195)])) rfl (hb hby at_64) (by decide) (by decide)
 obtain ⟨b204, g204⟩ : ∃ z, z = h195.size := ⟨_, rfl⟩
 rw [← g204] at A204 D204 st204
 have f205 := (q192_F0.ext E195)
 have ne_b101_b204 : b101 ≠ b204 := Nat.ne_of_lt (Nat.lt_of_lt_of_le f205.lt (Nat.le_of_eq g204.symm))
 have f206 := (f196.ext E195)
 have ne_b108_b204 : b108 ≠ b204 := Nat.ne_of_lt (Nat.lt_of_lt_of_le f206.lt (Nat.le_of_eq g204.symm))
 have f207 := (f197.ext E195)
 have ne_b114_b204 : b114 ≠ b204 := Nat.ne_of_lt (Nat.lt_of_lt_of_le f207.lt (Nat.le_of_eq g204.symm))
 have f208 := (f198.ext E195)
 have ne_x131_b204 : x131 ≠ b204 := Nat.ne_of_lt (Nat.lt_of_lt_of_le f208.lt (Nat.le_of_eq g204.symm))
 have f209 := (q192_F4.ext E195)
 have ne_x142_b204 : x142 ≠ b204 := Nat.ne_of_lt (Nat.lt_of_lt_of_le f209.lt (Nat.le_of_eq g204.symm))
 have f210 := (f199.ext E195)
 have ne_b146_b204 : b146 ≠ b204 := Nat.ne_of_lt (Nat.lt_of_lt_of_le f210.lt (Nat.le_of_eq g204.symm))
 have f211 := (f200.ext E195)
 have ne_b156_b204 : b156 ≠ b204 := Nat.ne_of_lt (Nat.lt_of_lt_of_le f211.lt (Nat.le_of_eq g204.symm))
 have f212 := (f201.ext E195)
 have ne_x183_b204 : x183 ≠ b204 := Nat.ne_of_lt (Nat.lt_of_lt_of_le f212.lt (Nat.le_of_eq g204.symm))
 have ne_b195_b204 : b195 ≠ b204 := Nat.ne_of_lt (Nat.lt_of_lt_of_le A195.lt (Nat.le_of_eq g204.symm))
 have ge_b204 : n0 ≤ b204 := Nat.le_trans (Nat.le_trans Z0 K202.1) (Nat.le_of_eq g204.symm)
 have sz_b204 : h0.size ≤ b204 := Nat.le_trans K202.1 (Nat.le_of_eq g204.symm)
 have K213 : Keep h0 h204 [] := K202.ext E204
 have F204_variables : Fld Z h204 b204 "com/example/arcward/arcward/model/Instance" "variables" "Ljava/util/List;" .null := D204 (Or.inr (own_w hw 185 rfl)) (ty := (.object "java/util/List")) (by decide)
 have F204_constraints : Fld Z h204 b204 "com/example/arcward/arcward/model/Instance" "constraints" "Ljava/util/List;" .null := D204 (Or.inr (own_w hw 191 rfl)) (ty := (.object "java/util/List")) (by decide)
 have p214 : Go p.tables e below _ (T204.setTop (mkF m 69 #[.val (.int p1), .val (.int p2), .val (.int p3), .val (.ref b101), .unset, .unset, .unset, .unset, .unset, .unset, .unset, .unset] [(.ref b101), (.ref b204), (.ref b204), (.ref b195), (.ref b195)])) := fun t_ k_ => (gc p203 st204) t_ (by
  refine XS.dup X204.here hx rfl (hb hby at_67) rfl rfl ?_
  refine XS.aloadN X204.here hx rfl (hb hby at_68) rfl rfl ?_
  exact k_)
 obtain ⟨T215, h215, X215, e215, E215, A215, D215, -, st215⟩ := newO X204 hx hZ152 hown152 (own_w hw 0 rfl) (own_w hw 1 rfl) (own_w hw 2 rfl) e204 (g := (mkF m 69 #[.val (.int p1), .val (.int p2), .val (.int p3), .val (.ref b101), .unset, .unset, .unset, .unset, .unset, .unset, .unset, .unset] [(.ref b101), (.ref b204), (.ref b204), (.ref b195), (.ref b195)])) rfl (hb hby at_69) (by decide) (by decide)
 obtain ⟨b215, g215⟩ : ∃ z, z = h204.size := ⟨_, rfl⟩
 rw [← g215] at A215 D215 st215
 have f216 := (f205.ext E204)
 have ne_b101_b215 : b101 ≠ b215 := Nat.ne_of_lt (Nat.lt_of_lt_of_le f216.lt (Nat.le_of_eq g215.symm))
 have f217 := (f206.ext E204)
 have ne_b108_b215 : b108 ≠ b215 := Nat.ne_of_lt (Nat.lt_of_lt_of_le f217.lt (Nat.le_of_eq g215.symm))
 have f218 := (f207.ext E204)
 have ne_b114_b215 : b114 ≠ b215 := Nat.ne_of_lt (Nat.lt_of_lt_of_le f218.lt (Nat.le_of_eq g215.symm))
 have f219 := (f208.ext E204)
 have ne_x131_b215 : x131 ≠ b215 := Nat.ne_of_lt (Nat.lt_of_lt_of_le f219.lt (Nat.le_of_eq g215.symm))
 have f220 := (f209.ext E204)
 have ne_x142_b215 : x142 ≠ b215 := Nat.ne_of_lt (Nat.lt_of_lt_of_le f220.lt (Nat.le_of_eq g215.symm))
 have f221 := (f210.ext E204)
 have ne_b146_b215 : b146 ≠ b215 := Nat.ne_of_lt (Nat.lt_of_lt_of_le f221.lt (Nat.le_of_eq g215.symm))
 have f222 := (f211.ext E204)
 have ne_b156_b215 : b156 ≠ b215 := Nat.ne_of_lt (Nat.lt_of_lt_of_le f222.lt (Nat.le_of_eq g215.symm))
 have f223 := (f212.ext E204)
 have ne_x183_b215 : x183 ≠ b215 := Nat.ne_of_lt (Nat.lt_of_lt_of_le f223.lt (Nat.le_of_eq g215.symm))
 have f224 := (A195.ext E204)
 have ne_b195_b215 : b195 ≠ b215 := Nat.ne_of_lt (Nat.lt_of_lt_of_le f224.lt (Nat.le_of_eq g215.symm))
 have ne_b204_b215 : b204 ≠ b215 := Nat.ne_of_lt (Nat.lt_of_lt_of_le A204.lt (Nat.le_of_eq g215.symm))
 have ge_b215 : n0 ≤ b215 := Nat.le_trans (Nat.le_trans Z0 K213.1) (Nat.le_of_eq g215.symm)
 have sz_b215 : h0.size ≤ b215 := Nat.le_trans K213.1 (Nat.le_of_eq g215.symm)
 have K225 : Keep h0 h215 [] := K213.ext E215
 have F215_modCount : Fld Z h215 b215 "java/util/AbstractList" "modCount" "I" (.int (0 : Int32)) := D215 (Or.inl (own_w hw 22 rfl)) (ty := .int) (by decide)
 have F215_elementData : Fld Z h215 b215 "java/util/ArrayList" "elementData" "[Ljava/lang/Object;" .null := D215 (Or.inl (own_w hw 25 rfl)) (ty := (.array (.object "java/lang/Object"))) (by decide)
 have F215_size : Fld Z h215 b215 "java/util/ArrayList" "size" "I" (.int (0 : Int32)) := D215 (Or.inl (own_w hw 65 rfl)) (ty := .int) (by decide)
 have p226 : Go p.tables e below _ (T215.setTop (mkF m 73 #[.val (.int p1), .val (.int p2), .val (.int p3), .val (.ref b101), .unset, .unset, .unset, .unset, .unset, .unset, .unset, .unset] [(.ref b215), (.ref b215), (.ref b101), (.ref b204), (.ref b204), (.ref b195), (.ref b195)])) := fun t_ k_ => (gc p214 st215) t_ (by
  refine XS.dup X215.here hx rfl (hb hby at_72) rfl rfl ?_
  exact k_)
 have f227 := (((((((((((f137.keep q141_K (allS ge_b101 all0)).ext E146).ext E152).ext E156).wr W165 ge_b156).wr W168 ge_b156).keep q182_K (allS ge_b146 all0)).keep q192_K (allS ge_b101 (allS q141_g all0))).ext E195).ext E204).ext E215)
 obtain ⟨_, _, ⟨T228, L228, k228, n228⟩, -, X228, ⟨Lc228, hQ228, l228, y228, z228⟩, st228⟩ := X215.specialBack hx (y := (⟨"java/util/ArrayList", "<init>", "()V"⟩ : MethodName)) rfl hown152 (mvT hZ152 (own_w hw 3 rfl)) (mvT hZ152 (own_w hw 4 rfl)) (mvT hZ152 (own_w hw 5 rfl)) (by decide) (backOf (W := 6) (rm1 l Z a0 hw [] b215 de kde el ea kea em mr h215 n0 (Nat.le_trans Z0 K225.1) f227 G A215 F215_modCount F215_elementData F215_size ge_b215) hZ152 (own_w hw 5 rfl) (own_w hw 2 rfl) (by decide) (by decide)) (g := (mkF m 73 #[.val (.int p1), .val (.int p2), .val (.int p3), .val (.ref b101), .unset, .unset, .unset, .unset, .unset, .unset, .unset, .unset] [(.ref b215), (.ref b215), (.ref b101), (.ref b204), (.ref b204), (.ref b195), (.ref b195)])) rfl (by rw [hml]; rfl) (Steps.refl _) (a := b215) (argsL := []) (rest := [(.ref b215), (.ref b101), (.ref b204), (.ref b204), (.ref b195), (.ref b195)]) (lenOf pd0 rfl) rfl (by show 2 * 0 + _ ≤ _; exact Nat.le_of_eq rfl) (hb hby at_73) (fun _ _ => ⟨rfl, e215, (by decide : 15 + 0 ≤ _), (by decide : 56 + 0 ≤ _)⟩)
 dsimp only [Pt.U, Pt.locs, Pt.cells, Pt.slots] at X228 l228 y228 z228 st228 hQ228
 subst l228 y228 z228
 obtain ⟨rfl, N228q, q228_K, q228_F0, q228_F1, q228_F2, q228_F3⟩ := hQ228
 have N228 := Fr.app N192 N228q
 have K229 : Keep h0 T228.heap [] := K225.trans q228_K (allS (Or.inr sz_b215) all0)
 have f230 := ((f216.ext E215).keep q228_K)
 have f231 := ((f217.ext E215).keep q228_K)
 have f232 := ((f218.ext E215).keep q228_K)
 have f233 := ((((((f173.keep q182_K (ninS ne_b114_b146 nin0)).keep q192_K (ninS (Ne.symm ne_b101_b114) (ninS ne_b114_x142 nin0))).ext E195).ext E204).ext E215).keep q228_K (ninS ne_b114_b215 nin0))
 have f234 := ((f219.ext E215).keep q228_K (ninS ne_x131_b215 nin0))
 have f235 := ((f220.ext E215).keep q228_K (ninS ne_x142_b215 nin0))
 have f236 := ((((q192_F5.ext E195).ext E204).ext E215).keep q228_K)
 have f237 := ((f221.ext E215).keep q228_K)
 have f238 := ((f222.ext E215).keep q228_K)
 have f239 := ((((((V168.keep q182_K (ninS (Ne.symm ne_b146_b156) nin0)).keep q192_K (ninS (Ne.symm ne_b101_b156) (ninS (Ne.symm ne_x142_b156) nin0))).ext E195).ext E204).ext E215).keep q228_K (ninS ne_b156_b215 nin0))
 have f240 := ((f223.ext E215).keep q228_K (ninS ne_x183_b215 nin0))
 have f241 := ((f224.ext E215).keep q228_K)
 have f242 := ((A204.ext E215).keep q228_K)
 have f243 := (f227.keep q228_K (allS ge_b215 all0))
 have f244 := ((F204_variables.ext E215).keep q228_K (ninS ne_b204_b215 nin0))
 have f245 := ((F204_constraints.ext E215).keep q228_K (ninS ne_b204_b215 nin0))
 have f246 := ((((q192_F1.ext E195).ext E204).ext E215).keep q228_K (ninS ne_b101_b215 nin0))
 have f247 := ((((q192_F2.ext E195).ext E204).ext E215).keep q228_K (ninS ne_b101_b215 nin0))
 have f248 := ((((q192_F3.ext E195).ext E204).ext E215).keep q228_K (ninS ne_b101_b215 nin0))
 have f249 := ((((((((((((q130_F2.keep q141_K (ninS (Ne.symm ne_b101_b108) nin0)).ext E146).ext E152).ext E156).other W165 (Or.inl ne_b108_b156)).other W168 (Or.inl ne_b108_b156)).keep q182_K (ninS ne_b108_b146 nin0)).keep q192_K (ninS (Ne.symm ne_b101_b108) (ninS ne_b108_x142 nin0))).ext E195).ext E204).ext E215).keep q228_K (ninS ne_b108_b215 nin0))
 have f250 := (((((q182_F2.keep q192_K (ninS (Ne.symm ne_b101_b146) (ninS (Ne.symm ne_x142_b146) nin0))).ext E195).ext E204).ext E215).keep q228_K (ninS ne_b146_b215 nin0))
 obtain ⟨_, _, ⟨T251, L251, k251, n251⟩, -, X251, ⟨Lc251, hQ251, l251, y251, z251⟩, st251⟩ := X228.specialBack hx (y := (⟨"com/example/arcward/arcward/model/Instance", "<init>", "(Ljava/util/List;Ljava/util/List;)V"⟩ : MethodName)) rfl hown152 (mvT hZ152 (own_w hw 95 rfl)) (mvT hZ152 (own_w hw 96 rfl)) (mvT hZ152 (own_w hw 97 rfl)) (by decide) (backOf (W := 3) (rm11 l Z a0 hw [] b204 b101 b215 (((0 : Int32) + (1 : Int32)) + (1 : Int32)) (0 : Int32) x142 x143 b108 b146 de kde el ea kea em mr T228.heap n0 (Nat.le_trans Z0 K229.1) f243 G f242 f244 f245 ge_b204 f230 f246 f247 f248 f235 f236 f231 f237 f249 f250 q228_F0 q228_F1 q228_F2 q228_F3 ge_b146 (Ne.symm ne_b101_b204) ne_b204_b215 (Ne.symm ne_x142_b204) (Ne.symm ne_b108_b204) (Ne.symm ne_b146_b204)) hZ152 (own_w hw 97 rfl) (own_w hw 94 rfl) (by decide) (by decide)) (g := (mkF m 76 #[.val (.int p1), .val (.int p2), .val (.int p3), .val (.ref b101), .unset, .unset, .unset, .unset, .unset, .unset, .unset, .unset] [(.ref b215), (.ref b101), (.ref b204), (.ref b204), (.ref b195), (.ref b195)])) rfl (by rw [hml]; rfl) (Steps.refl _) (a := b204) (argsL := [(.ref b101), (.ref b215)]) (rest := [(.ref b204), (.ref b195), (.ref b195)]) (lenOf pd23 rfl) rfl (by show 2 * 0 + _ ≤ _; exact Nat.le_of_eq rfl) (hb hby at_76) (fun _ _ => ⟨rfl, rfl, (by decide : 15 + 3 ≤ _), (by decide : 56 + 8 ≤ _)⟩)
 dsimp only [Pt.U, Pt.locs, Pt.cells, Pt.slots] at X251 l251 y251 z251 st251 hQ251
 subst l251 y251 z251
 obtain ⟨x252, rfl, N251q, q251_K, q251_F0, q251_F1, q251_F2, q251_F3, q251_F4, q251_F5, q251_g, q251_z, q251_n⟩ := hQ251
 have N251 := Fr.app N228 N251q
 have K253 : Keep h0 T251.heap [] := K229.trans q251_K (allS (Or.inr sz_b204) all0)
 have ne_b101_x252 : b101 ≠ x252 := Nat.ne_of_lt (Nat.lt_of_lt_of_le f230.lt q251_z)
 have ne_b108_x252 : b108 ≠ x252 := Nat.ne_of_lt (Nat.lt_of_lt_of_le f231.lt q251_z)
 have ne_b114_x252 : b114 ≠ x252 := Nat.ne_of_lt (Nat.lt_of_lt_of_le f232.lt q251_z)
 have ne_x131_x252 : x131 ≠ x252 := Nat.ne_of_lt (Nat.lt_of_lt_of_le f234.lt q251_z)
 have ne_x142_x252 : x142 ≠ x252 := Nat.ne_of_lt (Nat.lt_of_lt_of_le f235.lt q251_z)
 have ne_b146_x252 : b146 ≠ x252 := Nat.ne_of_lt (Nat.lt_of_lt_of_le f237.lt q251_z)
 have ne_b156_x252 : b156 ≠ x252 := Nat.ne_of_lt (Nat.lt_of_lt_of_le f238.lt q251_z)
 have ne_x183_x252 : x183 ≠ x252 := Nat.ne_of_lt (Nat.lt_of_lt_of_le f240.lt q251_z)
 have ne_b195_x252 : b195 ≠ x252 := Nat.ne_of_lt (Nat.lt_of_lt_of_le f241.lt q251_z)
 have ne_b204_x252 : b204 ≠ x252 := Nat.ne_of_lt (Nat.lt_of_lt_of_le f242.lt q251_z)
 have ne_b215_x252 : b215 ≠ x252 := Nat.ne_of_lt (Nat.lt_of_lt_of_le q228_F0.lt q251_z)
 have p254 : Go p.tables e below _ (T251.setTop (mkF m 80 #[.val (.int p1), .val (.int p2), .val (.int p3), .val (.ref b101), .unset, .unset, .unset, .unset, .unset, .unset, .unset, .unset] [(.int (0 : Int32)), (.ref b204), (.ref b195), (.ref b195)])) := fun t_ k_ => (gcT (gcT p226 st228) st251) t_ (by
  refine XS.iconst X251.here hx rfl (hb hby at_79) ?_
  exact k_)
 have f255 := (f243.keep q251_K (allS ge_b204 all0))
 have f256 := (f241.keep q251_K)
 have f257 := ((((F195_trail.ext E204).ext E215).keep q228_K (ninS ne_b195_b215 nin0)).keep q251_K (ninS ne_b195_b204 nin0))
 have f258 := ((((F195_removedBy.ext E204).ext E215).keep q228_K (ninS ne_b195_b215 nin0)).keep q251_K (ninS ne_b195_b204 nin0))
 have f259 := ((((F195_bits.ext E204).ext E215).keep q228_K (ninS ne_b195_b215 nin0)).keep q251_K (ninS ne_b195_b204 nin0))
 have f260 := ((((F195_sizes.ext E204).ext E215).keep q228_K (ninS ne_b195_b215 nin0)).keep q251_K (ninS ne_b195_b204 nin0))
 have f261 := ((((F195_resized.ext E204).ext E215).keep q228_K (ninS ne_b195_b215 nin0)).keep q251_K (ninS ne_b195_b204 nin0))
 have f262 := ((((F195_inResized.ext E204).ext E215).keep q228_K (ninS ne_b195_b215 nin0)).keep q251_K (ninS ne_b195_b204 nin0))
 have f263 := ((((F195_resizedCount.ext E204).ext E215).keep q228_K (ninS ne_b195_b215 nin0)).keep q251_K (ninS ne_b195_b204 nin0))
 have f264 := ((((F195_trailLength.ext E204).ext E215).keep q228_K (ninS ne_b195_b215 nin0)).keep q251_K (ninS ne_b195_b204 nin0))
 have f265 := (f231.keep q251_K)
 have f266 := (((((((((((((q130_F3.keep q141_K (ninS (Ne.symm ne_b101_b108) nin0)).ext E146).ext E152).ext E156).other W165 (Or.inl ne_b108_b156)).other W168 (Or.inl ne_b108_b156)).keep q182_K (ninS ne_b108_b146 nin0)).keep q192_K (ninS (Ne.symm ne_b101_b108) (ninS ne_b108_x142 nin0))).ext E195).ext E204).ext E215).keep q228_K (ninS ne_b108_b215 nin0)).keep q251_K (ninS ne_b108_b204 nin0))
 have f267 := (f234.keep q251_K (ninS ne_x131_b204 nin0))
 have f268 := (f237.keep q251_K)
 have f269 := ((((((q182_F3.keep q192_K (ninS (Ne.symm ne_b101_b146) (ninS (Ne.symm ne_x142_b146) nin0))).ext E195).ext E204).ext E215).keep q228_K (ninS ne_b146_b215 nin0)).keep q251_K (ninS ne_b146_b204 nin0))
 have f270 := (f240.keep q251_K (ninS ne_x183_b204 nin0))
 obtain ⟨_, _, ⟨T271, L271, k271, n271⟩, -, X271, ⟨Lc271, hQ271, l271, y271, z271⟩, st271⟩ := X251.specialBack hx (y := (⟨"com/example/arcward/arcward/solver/Domains", "<init>", "(Lcom/example/arcward/arcward/model/Instance;I)V"⟩ : MethodName)) rfl hown152 (mvT hZ152 (own_w hw 260 rfl)) (mvT hZ152 (own_w hw 261 rfl)) (mvT hZ152 (own_w hw 262 rfl)) (by decide) (backOf (W := 1) (rm32 l Z a0 hw [] b195 b204 x252 b108 b146 x131 x183 x132 x184 de kde el ea kea em mr T251.heap n0 (Nat.le_trans Z0 K253.1) f255 G f256 f257 f258 f259 f260 f261 f262 f263 f264 ge_b195 q251_F0 q251_F1 q251_F3 q251_F4 q251_F5 ge_b146 f265 f266 f267 f268 f269 f270 ne_b195_b204 ne_b195_x252 (Ne.symm ne_b108_b195) (Ne.symm ne_b146_b195) (Ne.symm ne_x131_b195) (Ne.symm ne_x183_b195)) hZ152 (own_w hw 262 rfl) (own_w hw 91 rfl) (by decide) (by decide)) (g := (mkF m 80 #[.val (.int p1), .val (.int p2), .val (.int p3), .val (.ref b101), .unset, .unset, .unset, .unset, .unset, .unset, .unset, .unset] [(.int (0 : Int32)), (.ref b204), (.ref b195), (.ref b195)])) rfl (by rw [hml]; rfl) (Steps.refl _) (a := b195) (argsL := [(.ref b204), (.int (0 : Int32))]) (rest := [(.ref b195)]) (lenOf pd24 rfl) rfl (by show 2 * 0 + _ ≤ _; exact Nat.le_of_eq rfl) (hb hby at_80) (fun _ _ => ⟨rfl, rfl, (by decide : 18 + 8 ≤ _), (by decide : 64 + 106 ≤ _)⟩)
 dsimp only [Pt.U, Pt.locs, Pt.cells, Pt.slots] at X271 l271 y271 z271 st271 hQ271
 subst l271 y271 z271
 obtain ⟨x272, x273, x274, x275, x276, x277, x278, x279, x280, x281, x282, x283, x284, x285, x286, rfl, N271q, q271_K, q271_F0, q271_F1, q271_F2, q271_F3, q271_F4, q271_F5, q271_F6, q271_F7, q271_F8, q271_F9, q271_F10, q271_F11, q271_F12, q271_F13, q271_F14, q271_F15, q271_sz, q271_nd, q271_ge, q271_o⟩ := hQ271
 have N271 := Fr.app N251 N271q
 have K287 : Keep h0 T271.heap [] := K253.trans q271_K (allS (Or.inr sz_b195) all0)
 have p288 : Go p.tables e below _ (T271.setTop (mkF m 89 #[.val (.int p1), .val (.int p2), .val (.int p3), .val (.ref b101), .val (.ref b195), .unset, .unset, .unset, .unset, .unset, .unset, .unset] [(.int (0 : Int32)), (.int p1), (.ref b195)])) := fun t_ k_ => (gcT p254 st271) t_ (by
  refine XS.astore X271.here hx rfl (hb hby at_83) rfl rfl (l' := #[.val (.int p1), .val (.int p2), .val (.int p3), .val (.ref b101), .val (.ref b195), .unset, .unset, .unset, .unset, .unset, .unset, .unset]) rfl ?_
  refine XS.aload X271.here hx rfl (hb hby at_85) rfl rfl ?_
  refine XS.iloadN X271.here hx rfl (hb hby at_87) rfl ?_
  refine XS.iconst X271.here hx rfl (hb hby at_88) ?_
  exact k_)
 obtain ⟨_, _, ⟨T289, L289, k289, n289⟩, -, X289, ⟨Lc289, hQ289, l289, y289, z289⟩, st289⟩ := Jvm.LawKit.callS X271 hx (y := (⟨"com/example/arcward/arcward/solver/DomainsClearResizedPinLaw", "removals", "(Lcom/example/arcward/arcward/solver/Domains;II)V"⟩ : MethodName)) hown152 (mvT hZ152 (own_w hw 297 rfl)) (mvT hZ152 (own_w hw 298 rfl)) (mvT hZ152 (own_w hw 299 rfl)) (mvT hZ152 (own_w hw 300 rfl)) (by decide) (backOf (W := 0) (rm36 l Z a0 hw [] b195 x272 x273 x274 x275 x276 x277 x278 x279 x280 x281 x282 x283 x284 x285 x286 (3 : Int64) (3 : Int64) (2 : Int32) (2 : Int32) (0 : Int32) (0 : Int32) (List.replicate 96 (.int (0 : Int32))) 0 p1 (0 : Int32) T271.heap n0 (Nat.le_trans Z0 K287.1) q271_F0 q271_F1 q271_F2 q271_F3 q271_F4 q271_F5 q271_F6 q271_F7 q271_F8 q271_F9 q271_F10 q271_F11 q271_F12 q271_F13 q271_F14 q271_F15 q271_nd q271_ge (by decide) (List.length_replicate ..) (by decide)) hZ152 (own_w hw 300 rfl) (own_w hw 299 rfl) (by decide) (by decide)) (g := (mkF m 89 #[.val (.int p1), .val (.int p2), .val (.int p3), .val (.ref b101), .val (.ref b195), .unset, .unset, .unset, .unset, .unset, .unset, .unset] [(.int (0 : Int32)), (.int p1), (.ref b195)])) rfl (by rw [hml]; rfl) (argsL := [(.ref b195), (.int p1), (.int (0 : Int32))]) (rest := []) (lenOf pd25 rfl) rfl (by show 2 * 0 + _ ≤ _; exact Nat.le_of_eq rfl) (hb hby at_89) (fun _ _ => ⟨rfl, rfl, (by decide : 26 + 0 ≤ _), (by decide : 170 + 0 ≤ _)⟩)
 dsimp only [Pt.U, Pt.locs, Pt.cells, Pt.slots] at X289 l289 y289 z289 st289 hQ289
 subst l289 y289 z289
 obtain ⟨x290, x291, x292, x293, x294, x295, rfl, N289q, q289_K, q289_F0, q289_F1, q289_F2, q289_F3, q289_F4, q289_F5, q289_F6, q289_F7, q289_F8, q289_F9, q289_F10, q289_F11, q289_F12, q289_F13, q289_F14, q289_F15, q289_l, q289_tq⟩ := hQ289
 have N289 := Fr.app N271 N289q
 have K296 : Keep h0 T289.heap [] := K287.trans q289_K (allS (Or.inr sz_b195) (allS (Or.inr (Nat.le_trans K253.1 q271_sz.1)) (allS (Or.inr (Nat.le_trans K253.1 q271_sz.2.2.1)) (allS (Or.inr (Nat.le_trans K253.1 q271_sz.2.2.2.1)) (allS (Or.inr (Nat.le_trans K253.1 q271_sz.2.2.2.2.1)) (allS (Or.inr (Nat.le_trans K253.1 q271_sz.2.2.2.2.2.1)) (allS (Or.inr (Nat.le_trans K253.1 q271_sz.2.2.2.2.2.2)) all0)))))))
 have p297 : Go p.tables e below _ (T289.setTop (mkF m 94 #[.val (.int p1), .val (.int p2), .val (.int p3), .val (.ref b101), .val (.ref b195), .unset, .unset, .unset, .unset, .unset, .unset, .unset] [(.ref b195)])) := fun t_ k_ => (gc p288 st289) t_ (by
  refine XS.aload X289.here hx rfl (hb hby at_92) rfl rfl ?_
  exact k_)
 obtain ⟨cq298, kq298, q298a, q298b, q298c⟩ := isOf hZ152 rfl q289_F0
 obtain ⟨_, _, ⟨T298, L298, k298, n298⟩, -, X298, ⟨Lc298, hQ298, l298, y298, z298⟩, st298⟩ := X289.virtualBack hx (y := (⟨"com/example/arcward/arcward/solver/Domains", "clearResized", "()V"⟩ : MethodName)) (z := (⟨"com/example/arcward/arcward/solver/Domains", "clearResized", "()V"⟩ : MethodName)) hown152 (mvT hZ152 (own_w hw 301 rfl)) (mvT hZ152 (own_w hw 302 rfl)) (notFace_of_selects (args := #[]) (mvT hZ152 (own_w hw 304 rfl))) (mvT hZ152 (own_w hw 304 rfl)) (mvT hZ152 (own_w hw 303 rfl)) (by decide) (backOf (W := 0) (rm37 l Z a0 hw [] b195 x272 x273 x274 x275 x276 x277 x278 x279 x283 x284 (Int32.ofNat x295) (own_rc p1) (own_ra p1 (0 : Int32)) (own_rb p1 (0 : Int32)) (own_e0 p1) (own_e1 p1) T289.heap n0 (Nat.le_trans Z0 K296.1) q289_F0 q289_F1 q289_F2 q289_F3 q289_F4 q289_F5 q289_F6 q289_F7 q289_F8 q289_F12 q289_F13 q271_nd q271_ge (own_Rp _ _ _)) hZ152 (own_w hw 305 rfl) (own_w hw 91 rfl) (by decide) (by decide)) q298a q298c (g := (mkF m 94 #[.val (.int p1), .val (.int p2), .val (.int p3), .val (.ref b101), .val (.ref b195), .unset, .unset, .unset, .unset, .unset, .unset, .unset] [(.ref b195)])) rfl (by rw [hml]; rfl) (Steps.refl _) (argsL := []) (rest := []) (lenOf pd0 rfl) rfl (by show 2 * 0 + _ ≤ _; exact Nat.le_of_eq rfl) (hb hby at_94) (fun _ _ => ⟨rfl, rfl, (by decide : 26 + 0 ≤ _), (by decide : 170 + 0 ≤ _)⟩)
 dsimp only [Pt.U, Pt.locs, Pt.cells, Pt.slots] at X298 l298 y298 z298 st298 hQ298
 subst l298 y298 z298
 obtain ⟨rfl, N298q, q298_K, q298_F0, q298_F1, q298_F2, q298_F3, q298_F4, q298_F5, q298_F6, q298_F7, q298_F8, q298_F9, q298_F10⟩ := hQ298
 have N298 := Fr.app N289 N298q
 have K299 : Keep h0 T298.heap [] := K296.trans q298_K (allS (Or.inr sz_b195) (allS (Or.inr (Nat.le_trans K253.1 q271_sz.2.2.2.2.1)) all0))
 obtain ⟨T307, L307, h307, X307, e307, N307, K307, kb307, J307_0, J307_1, J307_2, J307_3, J307_4, J307_5, J307_6, J307_7, J307_8, J307_9, J307_10, J307_11, J307_12, J307_13, J307_14, J307_15, J307_16, p307⟩ : ∃ (T' : State) (L' : List Loc) (h' : Heap), Stand p l e room_1 (s.setVm T152.vm) m #[(.int p1), (.int p2), (.int p3)] below meth c T' L' 26 170 ∧ T'.heap = h' ∧ Fr n0 L' ∧ Keep h0 h' [] ∧ k152 ≤ h'.size ∧ Old Z n0 h' ∧ Exa Z h' b195 "com/example/arcward/arcward/solver/Domains" ∧ Fld Z h' b195 "com/example/arcward/arcward/solver/Domains" "trail" "[I" (.ref x272) ∧ Fld Z h' b195 "com/example/arcward/arcward/solver/Domains" "removedBy" "[I" (.ref x279) ∧ Fld Z h' b195 "com/example/arcward/arcward/solver/Domains" "bits" "[[J" (.ref x273) ∧ Fld Z h' b195 "com/example/arcward/arcward/solver/Domains" "sizes" "[I" (.ref x274) ∧ Fld Z h' b195 "com/example/arcward/arcward/solver/Domains" "resized" "[I" (.ref x275) ∧ Fld Z h' b195 "com/example/arcward/arcward/solver/Domains" "inResized" "[Z" (.ref x276) ∧ Fld Z h' b195 "com/example/arcward/arcward/solver/Domains" "resizedCount" "I" (.int (0 : Int32)) ∧ Fld Z h' b195 "com/example/arcward/arcward/solver/Domains" "trailLength" "I" (.int (Int32.ofNat x295)) ∧ Arv Z h' x272 x280 .int (96 : Int32) x294 (.int (0 : Int32)) ∧ Arv Z h' x273 x281 (.array .long) (2 : Int32) [(.ref x277), (.ref x278)] .null ∧ Arv Z h' x274 x282 .int (2 : Int32) [(.int x292), (.int x293)] (.int (0 : Int32)) ∧ Arv Z h' x275 x283 .int (2 : Int32) [(.int (own_ra p1 (0 : Int32))), (.int (own_rb p1 (0 : Int32)))] (.int (0 : Int32)) ∧ Arv Z h' x276 x284 .boolean (2 : Int32) [(.int (0 : Int32)), (.int (0 : Int32))] (.int (0 : Int32)) ∧ Arv Z h' x277 x285 .long (1 : Int32) [(.long x290)] (.long (0 : Int64)) ∧ Arv Z h' x278 x286 .long (1 : Int32) [(.long x291)] (.long (0 : Int64)) ∧ Go p.tables e below (s₁.setTop (entryFrame m #[(.int p1), (.int p2), (.int p3)] maxLocals)) (T'.setTop (mkF m 108 #[.val (.int p1), .val (.int p2), .val (.int p3), .val (.ref b101), .val (.ref b195), .unset, .unset, .unset, .unset, .unset, .unset, .unset] [])) := by
  have p300 : Go p.tables e below _ (T298.setTop (mkF m 100 #[.val (.int p1), .val (.int p2), .val (.int p3), .val (.ref b101), .val (.ref b195), .unset, .unset, .unset, .unset, .unset, .unset, .unset] [(.int (p3 &&& (1 : Int32)))])) := fun t_ k_ => (gcT p297 st298) t_ (by
   refine XS.iloadN X298.here hx rfl (hb hby at_97) rfl ?_
   refine XS.iconst X298.here hx rfl (hb hby at_98) ?_
   refine XS.iand X298.here hx rfl (hb hby at_99) rfl ?_
   exact k_)
  by_cases c301 : (p3 &&& (1 : Int32)) = (0 : Int32)
  ·have p302 : Go p.tables e below _ (T298.setTop (mkF m 108 #[.val (.int p1), .val (.int p2), .val (.int p3), .val (.ref b101), .val (.ref b195), .unset, .unset, .unset, .unset, .unset, .unset, .unset] [])) := fun t_ k_ => p300 t_ (by
    refine XS.ifYes X298.here hx rfl (pc0 := 100) (pc' := 108) rfl (hb hby at_100) rfl ((if0 _ _).trans (teq c301).1) (by decide) (by decide) ?_
    exact k_)
   have f308 := (Nat.le_trans (Nat.le_trans (Nat.le_trans (Nat.le_trans (Nat.le_trans (Nat.le_trans (Nat.le_trans (Nat.le_trans (Nat.le_trans (Nat.le_trans (Nat.le_trans (Nat.le_trans (Nat.le_trans kb152 E156.1) (Keep.of_wr W165).1) (Keep.of_wr W168).1) q182_K.1) q192_K.1) E195.1) E204.1) E215.1) q228_K.1) q251_K.1) q271_K.1) q289_K.1) q298_K.1)
   have f309 := (((f255.keep q271_K (allS q271_ge.1 all0)).keep q289_K (allS q271_ge.1 (allS q271_ge.2.1 (allS q271_ge.2.2.2.1 (allS q271_ge.2.2.2.2.1 (allS q271_ge.2.2.2.2.2.1 (allS q271_ge.2.2.2.2.2.2.1 (allS q271_ge.2.2.2.2.2.2.2 all0)))))))).keep q298_K (allS q271_ge.1 (allS q271_ge.2.2.2.2.2.1 all0)))
   have f310 := (q289_F9.keep q298_K (ninS (Ne.symm q271_nd.1) (ninS q271_nd.2.2.2.2.2.2.2.2.2.2.1 nin0)))
   have f311 := (q289_F10.keep q298_K (ninS (Ne.symm q271_nd.2.1) (ninS q271_nd.2.2.2.2.2.2.2.2.2.2.2.2.2.2.2.1 nin0)))
   have f312 := (q289_F11.keep q298_K (ninS (Ne.symm q271_nd.2.2.1) (ninS q271_nd.2.2.2.2.2.2.2.2.2.2.2.2.2.2.2.2.2.2.2.1 nin0)))
   have f313 := (q289_F14.keep q298_K (ninS (Ne.symm q271_nd.2.2.2.2.2.1) (ninS (Ne.symm q271_nd.2.2.2.2.2.2.2.2.2.2.2.2.2.2.2.2.2.2.2.2.2.2.2.2.2.1) nin0)))
   have f314 := (q289_F15.keep q298_K (ninS (Ne.symm q271_nd.2.2.2.2.2.2.1) (ninS (Ne.symm q271_nd.2.2.2.2.2.2.2.2.2.2.2.2.2.2.2.2.2.2.2.2.2.2.2.2.2.2.1) nin0)))
   exact ⟨_, _, _, X298, rfl, N298, K299, f308, f309, q298_F0, q298_F1, q298_F2, q298_F3, q298_F4, q298_F5, q298_F6, q298_F7, q298_F8, f310, f311, f312, q298_F9, q298_F10, f313, f314, p302⟩
  ·have p303 : Go p.tables e below _ (T298.setTop (mkF m 103 #[.val (.int p1), .val (.int p2), .val (.int p3), .val (.ref b101), .val (.ref b195), .unset, .unset, .unset, .unset, .unset, .unset, .unset] [])) := fun t_ k_ => p300 t_ (by
    refine XS.ifNo X298.here hx rfl (hb hby at_100) rfl ((if0 _ _).trans (feq c301).1) ?_
    exact k_)
   have p304 : Go p.tables e below _ (T298.setTop (mkF m 105 #[.val (.int p1), .val (.int p2), .val (.int p3), .val (.ref b101), .val (.ref b195), .unset, .unset, .unset, .unset, .unset, .unset, .unset] [(.ref b195)])) := fun t_ k_ => p303 t_ (by
    refine XS.aload X298.here hx rfl (hb hby at_103) rfl rfl ?_
    exact k_)
   obtain ⟨cq305, kq305, q305a, q305b, q305c⟩ := isOf hZ152 rfl q298_F0
   obtain ⟨_, _, ⟨T305, L305, k305, n305⟩, -, X305, ⟨Lc305, hQ305, l305, y305, z305⟩, st305⟩ := X298.virtualBack hx (y := (⟨"com/example/arcward/arcward/solver/Domains", "clearResized", "()V"⟩ : MethodName)) (z := (⟨"com/example/arcward/arcward/solver/Domains", "clearResized", "()V"⟩ : MethodName)) hown152 (mvT hZ152 (own_w hw 301 rfl)) (mvT hZ152 (own_w hw 302 rfl)) (notFace_of_selects (args := #[]) (mvT hZ152 (own_w hw 304 rfl))) (mvT hZ152 (own_w hw 304 rfl)) (mvT hZ152 (own_w hw 303 rfl)) (by decide) (backOf (W := 0) (rm37 l Z a0 hw [] b195 x272 x273 x274 x275 x276 x277 x278 x279 x283 x284 (Int32.ofNat x295) (0 : Int32) (own_ra p1 (0 : Int32)) (own_rb p1 (0 : Int32)) (0 : Int32) (0 : Int32) T298.heap n0 (Nat.le_trans Z0 K299.1) q298_F0 q298_F1 q298_F2 q298_F3 q298_F4 q298_F5 q298_F6 q298_F7 q298_F8 q298_F9 q298_F10 q271_nd q271_ge (Or.inl ⟨rfl, rfl, rfl⟩)) hZ152 (own_w hw 305 rfl) (own_w hw 91 rfl) (by decide) (by decide)) q305a q305c (g := (mkF m 105 #[.val (.int p1), .val (.int p2), .val (.int p3), .val (.ref b101), .val (.ref b195), .unset, .unset, .unset, .unset, .unset, .unset, .unset] [(.ref b195)])) rfl (by rw [hml]; rfl) (Steps.refl _) (argsL := []) (rest := []) (lenOf pd0 rfl) rfl (by show 2 * 0 + _ ≤ _; exact Nat.le_of_eq rfl) (hb hby at_105) (fun _ _ => ⟨rfl, rfl, (by decide : 26 + 0 ≤ _), (by decide : 170 + 0 ≤ _)⟩)
   dsimp only [Pt.U, Pt.locs, Pt.cells, Pt.slots] at X305 l305 y305 z305 st305 hQ305
   subst l305 y305 z305
   obtain ⟨rfl, N305q, q305_K, q305_F0, q305_F1, q305_F2, q305_F3, q305_F4, q305_F5, q305_F6, q305_F7, q305_F8, q305_F9, q305_F10⟩ := hQ305
   have N305 := Fr.app N298 N305q
   have K306 : Keep h0 T305.heap [] := K299.trans q305_K (allS (Or.inr sz_b195) (allS (Or.inr (Nat.le_trans K253.1 q271_sz.2.2.2.2.1)) all0))
   have f315 := (Nat.le_trans (Nat.le_trans (Nat.le_trans (Nat.le_trans (Nat.le_trans (Nat.le_trans (Nat.le_trans (Nat.le_trans (Nat.le_trans (Nat.le_trans (Nat.le_trans (Nat.le_trans (Nat.le_trans (Nat.le_trans kb152 E156.1) (Keep.of_wr W165).1) (Keep.of_wr W168).1) q182_K.1) q192_K.1) E195.1) E204.1) E215.1) q228_K.1) q251_K.1) q271_K.1) q289_K.1) q298_K.1) q305_K.1)
   have f316 := ((((f255.keep q271_K (allS q271_ge.1 all0)).keep q289_K (allS q271_ge.1 (allS q271_ge.2.1 (allS q271_ge.2.2.2.1 (allS q271_ge.2.2.2.2.1 (allS q271_ge.2.2.2.2.2.1 (allS q271_ge.2.2.2.2.2.2.1 (allS q271_ge.2.2.2.2.2.2.2 all0)))))))).keep q298_K (allS q271_ge.1 (allS q271_ge.2.2.2.2.2.1 all0))).keep q305_K (allS q271_ge.1 (allS q271_ge.2.2.2.2.2.1 all0)))
   have f317 := ((q289_F9.keep q298_K (ninS (Ne.symm q271_nd.1) (ninS q271_nd.2.2.2.2.2.2.2.2.2.2.1 nin0))).keep q305_K (ninS (Ne.symm q271_nd.1) (ninS q271_nd.2.2.2.2.2.2.2.2.2.2.1 nin0)))
   have f318 := ((q289_F10.keep q298_K (ninS (Ne.symm q271_nd.2.1) (ninS q271_nd.2.2.2.2.2.2.2.2.2.2.2.2.2.2.2.1 nin0))).keep q305_K (ninS (Ne.symm q271_nd.2.1) (ninS q271_nd.2.2.2.2.2.2.2.2.2.2.2.2.2.2.2.1 nin0)))
   have f319 := ((q289_F11.keep q298_K (ninS (Ne.symm q271_nd.2.2.1) (ninS q271_nd.2.2.2.2.2.2.2.2.2.2.2.2.2.2.2.2.2.2.2.1 nin0))).keep q305_K (ninS (Ne.symm q271_nd.2.2.1) (ninS q271_nd.2.2.2.2.2.2.2.2.2.2.2.2.2.2.2.2.2.2.2.1 nin0)))
   have f320 := ((q289_F14.keep q298_K (ninS (Ne.symm q271_nd.2.2.2.2.2.1) (ninS (Ne.symm q271_nd.2.2.2.2.2.2.2.2.2.2.2.2.2.2.2.2.2.2.2.2.2.2.2.2.2.1) nin0))).keep q305_K (ninS (Ne.symm q271_nd.2.2.2.2.2.1) (ninS (Ne.symm q271_nd.2.2.2.2.2.2.2.2.2.2.2.2.2.2.2.2.2.2.2.2.2.2.2.2.2.1) nin0)))
   have f321 := ((q289_F15.keep q298_K (ninS (Ne.symm q271_nd.2.2.2.2.2.2.1) (ninS (Ne.symm q271_nd.2.2.2.2.2.2.2.2.2.2.2.2.2.2.2.2.2.2.2.2.2.2.2.2.2.2.1) nin0))).keep q305_K (ninS (Ne.symm q271_nd.2.2.2.2.2.2.1) (ninS (Ne.symm q271_nd.2.2.2.2.2.2.2.2.2.2.2.2.2.2.2.2.2.2.2.2.2.2.2.2.2.2.1) nin0)))
   exact ⟨_, _, _, X305, rfl, N305, K306, f315, f316, q305_F0, q305_F1, q305_F2, q305_F3, q305_F4, q305_F5, q305_F6, q305_F7, q305_F8, f317, f318, f319, q305_F9, q305_F10, f320, f321, (gcT p304 st305)⟩
 have p322 : Go p.tables e below _ (T307.setTop (mkF m 110 #[.val (.int p1), .val (.int p2), .val (.int p3), .val (.ref b101), .val (.ref b195), .unset, .unset, .unset, .unset, .unset, .unset, .unset] [(.ref b195)])) := fun t_ k_ => p307 t_ (by
  refine XS.aload X307.here hx rfl (hb hby at_108) rfl rfl ?_
  exact k_)
 obtain ⟨cq323, kq323, q323a, q323b, q323c⟩ := isOf hZ152 e307 J307_1
 obtain ⟨_, _, ⟨T323, L323, k323, n323⟩, -, X323, ⟨Lc323, hQ323, l323, y323, z323⟩, st323⟩ := X307.virtualBack hx (y := (⟨"com/example/arcward/arcward/solver/Domains", "resizedCount", "()I"⟩ : MethodName)) (z := (⟨"com/example/arcward/arcward/solver/Domains", "resizedCount", "()I"⟩ : MethodName)) hown152 (mvT hZ152 (own_w hw 308 rfl)) (mvT hZ152 (own_w hw 309 rfl)) (notFace_of_selects (args := #[]) (mvT hZ152 (own_w hw 311 rfl))) (mvT hZ152 (own_w hw 311 rfl)) (mvT hZ152 (own_w hw 310 rfl)) (by decide) (backOf (W := 0) (rm38 l Z a0 hw [] b195 (0 : Int32) h307 n0 (Nat.le_trans Z0 K307.1) J307_8) hZ152 (own_w hw 312 rfl) (own_w hw 91 rfl) (by decide) (by decide)) q323a q323c (g := (mkF m 110 #[.val (.int p1), .val (.int p2), .val (.int p3), .val (.ref b101), .val (.ref b195), .unset, .unset, .unset, .unset, .unset, .unset, .unset] [(.ref b195)])) rfl (by rw [hml]; rfl) (Steps.refl _) (argsL := []) (rest := []) (lenOf pd13 rfl) rfl (by show 2 * 0 + _ ≤ _; exact Nat.le_of_eq rfl) (hb hby at_110) (fun _ _ => ⟨rfl, e307, (by decide : 26 + 0 ≤ _), (by decide : 170 + 0 ≤ _)⟩)
 dsimp only [Pt.U, Pt.locs, Pt.cells, Pt.slots] at X323 l323 y323 z323 st323 hQ323
 subst l323 y323 z323
 obtain ⟨rfl, N323q, q323_hh⟩ := hQ323
 have N323 := Fr.app N307 N323q
 have p324 : Go p.tables e below _ (T323.setTop (mkF m 127 #[.val (.int p1), .val (.int p2), .val (.int p3), .val (.ref b101), .val (.ref b195), .val (.int (1 : Int32)), .unset, .unset, .unset, .unset, .unset, .unset] [(.int (1 : Int32)), (.int p2), (.ref b195)])) := fun t_ k_ => (gcT p322 st323) t_ (by
  refine XS.ifNo X323.here hx rfl (hb hby at_113) rfl ((if0 _ _).trans (teq (by decide : ((0 : Int32) = (0 : Int32)))).2) ?_
  refine XS.iconst X323.here hx rfl (hb hby at_116) ?_
  refine XS.goto X323.here hx rfl (pc0 := 117) (pc' := 121) rfl (hb hby at_117) (by decide) (by decide) ?_
  refine XS.istore X323.here hx rfl (hb hby at_121) rfl (l' := #[.val (.int p1), .val (.int p2), .val (.int p3), .val (.ref b101), .val (.ref b195), .val (.int (1 : Int32)), .unset, .unset, .unset, .unset, .unset, .unset]) rfl ?_
  refine XS.aload X323.here hx rfl (hb hby at_123) rfl rfl ?_
  refine XS.iloadN X323.here hx rfl (hb hby at_125) rfl ?_
  refine XS.iconst X323.here hx rfl (hb hby at_126) ?_
  exact k_)
 obtain ⟨_, _, ⟨T325, L325, k325, n325⟩, -, X325, ⟨Lc325, hQ325, l325, y325, z325⟩, st325⟩ := Jvm.LawKit.callS X323 hx (y := (⟨"com/example/arcward/arcward/solver/DomainsClearResizedPinLaw", "removals", "(Lcom/example/arcward/arcward/solver/Domains;II)V"⟩ : MethodName)) hown152 (mvT hZ152 (own_w hw 297 rfl)) (mvT hZ152 (own_w hw 298 rfl)) (mvT hZ152 (own_w hw 299 rfl)) (mvT hZ152 (own_w hw 300 rfl)) (by decide) (backOf (W := 0) (rm36 l Z a0 hw [] b195 x272 x273 x274 x275 x276 x277 x278 x279 x280 x281 x282 x283 x284 x285 x286 x290 x291 x292 x293 (own_ra p1 (0 : Int32)) (own_rb p1 (0 : Int32)) x294 x295 p2 (1 : Int32) h307 n0 (Nat.le_trans Z0 K307.1) J307_1 J307_2 J307_3 J307_4 J307_5 J307_6 J307_7 J307_8 J307_9 J307_10 J307_11 J307_12 J307_13 J307_14 J307_15 J307_16 q271_nd q271_ge (by have z := q289_tq; omega) q289_l (by decide)) hZ152 (own_w hw 300 rfl) (own_w hw 299 rfl) (by decide) (by decide)) (g := (mkF m 127 #[.val (.int p1), .val (.int p2), .val (.int p3), .val (.ref b101), .val (.ref b195), .val (.int (1 : Int32)), .unset, .unset, .unset, .unset, .unset, .unset] [(.int (1 : Int32)), (.int p2), (.ref b195)])) rfl (by rw [hml]; rfl) (argsL := [(.ref b195), (.int p2), (.int (1 : Int32))]) (rest := []) (lenOf pd25 rfl) rfl (by show 2 * 0 + _ ≤ _; exact Nat.le_of_eq rfl) (hb hby at_127) (fun _ _ => ⟨rfl, q323_hh, (by decide : 26 + 0 ≤ _), (by decide : 170 + 0 ≤ _)⟩)
 dsimp only [Pt.U, Pt.locs, Pt.cells, Pt.slots] at X325 l325 y325 z325 st325 hQ325
 subst l325 y325 z325
 obtain ⟨x326, x327, x328, x329, x330, x331, rfl, N325q, q325_K, q325_F0, q325_F1, q325_F2, q325_F3, q325_F4, q325_F5, q325_F6, q325_F7, q325_F8, q325_F9, q325_F10, q325_F11, q325_F12, q325_F13, q325_F14, q325_F15, q325_l, q325_tq⟩ := hQ325
 have N325 := Fr.app N323 N325q
 have K332 : Keep h0 T325.heap [] := K307.trans q325_K (allS (Or.inr sz_b195) (allS (Or.inr (Nat.le_trans K253.1 q271_sz.1)) (allS (Or.inr (Nat.le_trans K253.1 q271_sz.2.2.1)) (allS (Or.inr (Nat.le_trans K253.1 q271_sz.2.2.2.1)) (allS (Or.inr (Nat.le_trans K253.1 q271_sz.2.2.2.2.1)) (allS (Or.inr (Nat.le_trans K253.1 q271_sz.2.2.2.2.2.1)) (allS (Or.inr (Nat.le_trans K253.1 q271_sz.2.2.2.2.2.2)) all0)))))))
 have p333 : Go p.tables e below _ (T325.setTop (mkF m 133 #[.val (.int p1), .val (.int p2), .val (.int p3), .val (.ref b101), .val (.ref b195), .val (.int (1 : Int32)), .unset, .unset, .unset, .unset, .unset, .unset] [(.int (p2 &&& (1 : Int32)))])) := fun t_ k_ => (gc p324 st325) t_ (by
  refine XS.iloadN X325.here hx rfl (hb hby at_130) rfl ?_
  refine XS.iconst X325.here hx rfl (hb hby at_131) ?_
  refine XS.iand X325.here hx rfl (hb hby at_132) rfl ?_
  exact k_)
 by_cases c334 : (p2 &&& (1 : Int32)) = (0 : Int32)
 ·have p335 : Go p.tables e below _ (T325.setTop (mkF m 140 #[.val (.int p1), .val (.int p2), .val (.int p3), .val (.ref b101), .val (.ref b195), .val (.int (1 : Int32)), .unset, .unset, .unset, .unset, .unset, .unset] [])) := fun t_ k_ => p333 t_ (by
   refine XS.ifYes X325.here hx rfl (pc0 := 133) (pc' := 140) rfl (hb hby at_133) rfl ((if0 _ _).trans (teq c334).1) (by decide) (by decide) ?_
   exact k_)
  have p336 : Go p.tables e below _ (T325.setTop (mkF m 146 #[.val (.int p1), .val (.int p2), .val (.int p3), .val (.ref b101), .val (.ref b195), .val (.int (1 : Int32)), .val (.int (0 : Int32)), .unset, .unset, .unset, .unset, .unset] [(.int (p2 &&& (2 : Int32)))])) := fun t_ k_ => p335 t_ (by
   refine XS.iconst X325.here hx rfl (hb hby at_140) ?_
   refine XS.istore X325.here hx rfl (hb hby at_141) rfl (l' := #[.val (.int p1), .val (.int p2), .val (.int p3), .val (.ref b101), .val (.ref b195), .val (.int (1 : Int32)), .val (.int (0 : Int32)), .unset, .unset, .unset, .unset, .unset]) rfl ?_
   refine XS.iloadN X325.here hx rfl (hb hby at_143) rfl ?_
   refine XS.iconst X325.here hx rfl (hb hby at_144) ?_
   refine XS.iand X325.here hx rfl (hb hby at_145) rfl ?_
   exact k_)
  by_cases c337 : (p2 &&& (2 : Int32)) = (0 : Int32)
  ·have p338 : Go p.tables e below _ (T325.setTop (mkF m 153 #[.val (.int p1), .val (.int p2), .val (.int p3), .val (.ref b101), .val (.ref b195), .val (.int (1 : Int32)), .val (.int (0 : Int32)), .unset, .unset, .unset, .unset, .unset] [])) := fun t_ k_ => p336 t_ (by
    refine XS.ifYes X325.here hx rfl (pc0 := 146) (pc' := 153) rfl (hb hby at_146) rfl ((if0 _ _).trans (teq c337).1) (by decide) (by decide) ?_
    exact k_)
   have p339 : Go p.tables e below _ (T325.setTop (mkF m 159 #[.val (.int p1), .val (.int p2), .val (.int p3), .val (.ref b101), .val (.ref b195), .val (.int (1 : Int32)), .val (.int (0 : Int32)), .val (.int (0 : Int32)), .unset, .unset, .unset, .unset] [(.int (p2 &&& (4 : Int32)))])) := fun t_ k_ => p338 t_ (by
    refine XS.iconst X325.here hx rfl (hb hby at_153) ?_
    refine XS.istore X325.here hx rfl (hb hby at_154) rfl (l' := #[.val (.int p1), .val (.int p2), .val (.int p3), .val (.ref b101), .val (.ref b195), .val (.int (1 : Int32)), .val (.int (0 : Int32)), .val (.int (0 : Int32)), .unset, .unset, .unset, .unset]) rfl ?_
    refine XS.iloadN X325.here hx rfl (hb hby at_156) rfl ?_
    refine XS.iconst X325.here hx rfl (hb hby at_157) ?_
    refine XS.iand X325.here hx rfl (hb hby at_158) rfl ?_
    exact k_)
   by_cases c340 : (p2 &&& (4 : Int32)) = (0 : Int32)
   ·have p341 : Go p.tables e below _ (T325.setTop (mkF m 166 #[.val (.int p1), .val (.int p2), .val (.int p3), .val (.ref b101), .val (.ref b195), .val (.int (1 : Int32)), .val (.int (0 : Int32)), .val (.int (0 : Int32)), .unset, .unset, .unset, .unset] [])) := fun t_ k_ => p339 t_ (by
     refine XS.ifYes X325.here hx rfl (pc0 := 159) (pc' := 166) rfl (hb hby at_159) rfl ((if0 _ _).trans (teq c340).1) (by decide) (by decide) ?_
     exact k_)
    have p342 : Go p.tables e below _ (T325.setTop (mkF m 251 #[.val (.int p1), .val (.int p2), .val (.int p3), .val (.ref b101), .val (.ref b195), .val (.int (1 : Int32)), .val (.int (0 : Int32)), .val (.int (0 : Int32)), .val (.int (0 : Int32)), .val (.int (0 : Int32)), .val (.int (1 : Int32)), .val (.int (-1 : Int32))] [(.ref b195)])) := fun t_ k_ => p341 t_ (by
     refine XS.iconst X325.here hx rfl (hb hby at_166) ?_
     refine XS.istore X325.here hx rfl (hb hby at_167) rfl (l' := #[.val (.int p1), .val (.int p2), .val (.int p3), .val (.ref b101), .val (.ref b195), .val (.int (1 : Int32)), .val (.int (0 : Int32)), .val (.int (0 : Int32)), .val (.int (0 : Int32)), .unset, .unset, .unset]) rfl ?_
     refine XS.iload X325.here hx rfl (hb hby at_169) rfl ?_
     refine XS.ifYes X325.here hx rfl (pc0 := 171) (pc' := 178) rfl (hb hby at_171) rfl ((if0 _ _).trans (teq (by decide : ((0 : Int32) = (0 : Int32)))).1) (by decide) (by decide) ?_
     refine XS.iconst X325.here hx rfl (hb hby at_178) ?_
     refine XS.iload X325.here hx rfl (hb hby at_179) rfl ?_
     refine XS.ifYes X325.here hx rfl (pc0 := 181) (pc' := 188) rfl (hb hby at_181) rfl ((if0 _ _).trans (teq (by decide : ((0 : Int32) = (0 : Int32)))).1) (by decide) (by decide) ?_
     refine XS.iconst X325.here hx rfl (hb hby at_188) ?_
     refine XS.iadd X325.here hx rfl (hb hby at_189) rfl ?_
     refine XS.istore X325.here hx rfl (hb hby at_190) rfl (l' := #[.val (.int p1), .val (.int p2), .val (.int p3), .val (.ref b101), .val (.ref b195), .val (.int (1 : Int32)), .val (.int (0 : Int32)), .val (.int (0 : Int32)), .val (.int (0 : Int32)), .val (.int (0 : Int32)), .unset, .unset]) rfl ?_
     refine XS.iload X325.here hx rfl (hb hby at_192) rfl ?_
     refine XS.ifYes X325.here hx rfl (pc0 := 194) (pc' := 229) rfl (hb hby at_194) rfl ((if0 _ _).trans (teq (by decide : ((0 : Int32) = (0 : Int32)))).1) (by decide) (by decide) ?_
     refine XS.iload X325.here hx rfl (hb hby at_229) rfl ?_
     refine XS.ifYes X325.here hx rfl (pc0 := 231) (pc' := 243) rfl (hb hby at_231) rfl ((if0 _ _).trans (teq (by decide : ((0 : Int32) = (0 : Int32)))).1) (by decide) (by decide) ?_
     refine XS.iconst X325.here hx rfl (hb hby at_243) ?_
     refine XS.istore X325.here hx rfl (hb hby at_244) rfl (l' := #[.val (.int p1), .val (.int p2), .val (.int p3), .val (.ref b101), .val (.ref b195), .val (.int (1 : Int32)), .val (.int (0 : Int32)), .val (.int (0 : Int32)), .val (.int (0 : Int32)), .val (.int (0 : Int32)), .val (.int (1 : Int32)), .unset]) rfl ?_
     refine XS.iconst X325.here hx rfl (hb hby at_246) ?_
     refine XS.istore X325.here hx rfl (hb hby at_247) rfl (l' := #[.val (.int p1), .val (.int p2), .val (.int p3), .val (.ref b101), .val (.ref b195), .val (.int (1 : Int32)), .val (.int (0 : Int32)), .val (.int (0 : Int32)), .val (.int (0 : Int32)), .val (.int (0 : Int32)), .val (.int (1 : Int32)), .val (.int (-1 : Int32))]) rfl ?_
     refine XS.aload X325.here hx rfl (hb hby at_249) rfl rfl ?_
     exact k_)
    obtain ⟨cq343, kq343, q343a, q343b, q343c⟩ := isOf hZ152 rfl q325_F0
    obtain ⟨_, _, ⟨T343, L343, k343, n343⟩, -, X343, ⟨Lc343, hQ343, l343, y343, z343⟩, st343⟩ := X325.virtualBack hx (y := (⟨"com/example/arcward/arcward/solver/Domains", "resizedCount", "()I"⟩ : MethodName)) (z := (⟨"com/example/arcward/arcward/solver/Domains", "resizedCount", "()I"⟩ : MethodName)) hown152 (mvT hZ152 (own_w hw 308 rfl)) (mvT hZ152 (own_w hw 309 rfl)) (notFace_of_selects (args := #[]) (mvT hZ152 (own_w hw 311 rfl))) (mvT hZ152 (own_w hw 311 rfl)) (mvT hZ152 (own_w hw 310 rfl)) (by decide) (backOf (W := 0) (rm38 l Z a0 hw [] b195 (own_rc p2) T325.heap n0 (Nat.le_trans Z0 K332.1) q325_F7) hZ152 (own_w hw 312 rfl) (own_w hw 91 rfl) (by decide) (by decide)) q343a q343c (g := (mkF m 251 #[.val (.int p1), .val (.int p2), .val (.int p3), .val (.ref b101), .val (.ref b195), .val (.int (1 : Int32)), .val (.int (0 : Int32)), .val (.int (0 : Int32)), .val (.int (0 : Int32)), .val (.int (0 : Int32)), .val (.int (1 : Int32)), .val (.int (-1 : Int32))] [(.ref b195)])) rfl (by rw [hml]; rfl) (Steps.refl _) (argsL := []) (rest := []) (lenOf pd13 rfl) rfl (by show 2 * 0 + _ ≤ _; exact Nat.le_of_eq rfl) (hb hby at_251) (fun _ _ => ⟨rfl, rfl, (by decide : 26 + 0 ≤ _), (by decide : 170 + 0 ≤ _)⟩)
    dsimp only [Pt.U, Pt.locs, Pt.cells, Pt.slots] at X343 l343 y343 z343 st343 hQ343
    subst l343 y343 z343
    obtain ⟨rfl, N343q, q343_hh⟩ := hQ343
    have N343 := Fr.app N325 N343q
    have p344 : Go p.tables e below _ (T343.setTop (mkF m 256 #[.val (.int p1), .val (.int p2), .val (.int p3), .val (.ref b101), .val (.ref b195), .val (.int (1 : Int32)), .val (.int (0 : Int32)), .val (.int (0 : Int32)), .val (.int (0 : Int32)), .val (.int (0 : Int32)), .val (.int (1 : Int32)), .val (.int (-1 : Int32))] [(.int (0 : Int32)), (.int (own_rc p2))])) := fun t_ k_ => (gcT p342 st343) t_ (by
     refine XS.iload X343.here hx rfl (hb hby at_254) rfl ?_
     exact k_)
    have c345 : ((own_rc p2) = (0 : Int32)) := by simp [own_rc, c334, c337, c340]
    have p346 : Go p.tables e below _ (T343.setTop (mkF m 301 #[.val (.int p1), .val (.int p2), .val (.int p3), .val (.ref b101), .val (.ref b195), .val (.int (1 : Int32)), .val (.int (0 : Int32)), .val (.int (0 : Int32)), .val (.int (0 : Int32)), .val (.int (0 : Int32)), .val (.int (1 : Int32)), .val (.int (-1 : Int32))] [(.int (1 : Int32))])) := fun t_ k_ => p344 t_ (by
     refine XS.icmpYes X343.here hx rfl (pc0 := 256) (pc' := 261) rfl (hb hby at_256) rfl (teq c345).1 (by decide) (by decide) ?_
     refine XS.iload X343.here hx rfl (hb hby at_261) rfl ?_
     refine XS.iconst X343.here hx rfl (hb hby at_263) ?_
     refine XS.icmpYes X343.here hx rfl (pc0 := 264) (pc' := 280) rfl (hb hby at_264) rfl (tlt (by decide : ((0 : Int32) < (1 : Int32)))).1 (by decide) (by decide) ?_
     refine XS.iload X343.here hx rfl (hb hby at_280) rfl ?_
     refine XS.iconst X343.here hx rfl (hb hby at_282) ?_
     refine XS.icmpYes X343.here hx rfl (pc0 := 283) (pc' := 299) rfl (hb hby at_283) rfl (feq (by decide : ¬ ((0 : Int32) = (2 : Int32)))).2 (by decide) (by decide) ?_
     refine XS.iload X343.here hx rfl (hb hby at_299) rfl ?_
     exact k_)
    have f347 := (Nat.le_trans kb307 q325_K.1)
    obtain ⟨fs, hr, hrun, hended, hRW⟩ := X343.leaveW (s := s) S152 (by rw [q343_hh]; exact f347) (v := some (.int (1 : Int32))) (fun h => by rw [Bd.returns] at h; cases h)
    refine ⟨_, _, p346 _ (retN X343 hx (t := .boolean) Bd.returns (by simp) (hb hby at_301) hr), hrun, hended, _, _, rfl, ?_, hRW.1, hRW.2.1, hRW.2.2.1, hRW.2.2.2.mono (by decide) (by decide)⟩
    show Q0 Z p1 p2 p3 de kde el ea kea em mr h0 n0 _ T343.heap _
    rw [q343_hh]
    exact ⟨rfl, N343⟩
   ·have p348 : Go p.tables e below _ (T325.setTop (mkF m 162 #[.val (.int p1), .val (.int p2), .val (.int p3), .val (.ref b101), .val (.ref b195), .val (.int (1 : Int32)), .val (.int (0 : Int32)), .val (.int (0 : Int32)), .unset, .unset, .unset, .unset] [])) := fun t_ k_ => p339 t_ (by
     refine XS.ifNo X325.here hx rfl (hb hby at_159) rfl ((if0 _ _).trans (feq c340).1) ?_
     exact k_)
    have p349 : Go p.tables e below _ (T325.setTop (mkF m 251 #[.val (.int p1), .val (.int p2), .val (.int p3), .val (.ref b101), .val (.ref b195), .val (.int (1 : Int32)), .val (.int (0 : Int32)), .val (.int (0 : Int32)), .val (.int (1 : Int32)), .val (.int (0 : Int32)), .val (.int (1 : Int32)), .val (.int (-1 : Int32))] [(.ref b195)])) := fun t_ k_ => p348 t_ (by
     refine XS.iconst X325.here hx rfl (hb hby at_162) ?_
     refine XS.goto X325.here hx rfl (pc0 := 163) (pc' := 167) rfl (hb hby at_163) (by decide) (by decide) ?_
     refine XS.istore X325.here hx rfl (hb hby at_167) rfl (l' := #[.val (.int p1), .val (.int p2), .val (.int p3), .val (.ref b101), .val (.ref b195), .val (.int (1 : Int32)), .val (.int (0 : Int32)), .val (.int (0 : Int32)), .val (.int (1 : Int32)), .unset, .unset, .unset]) rfl ?_
     refine XS.iload X325.here hx rfl (hb hby at_169) rfl ?_
     refine XS.ifYes X325.here hx rfl (pc0 := 171) (pc' := 178) rfl (hb hby at_171) rfl ((if0 _ _).trans (teq (by decide : ((0 : Int32) = (0 : Int32)))).1) (by decide) (by decide) ?_
     refine XS.iconst X325.here hx rfl (hb hby at_178) ?_
     refine XS.iload X325.here hx rfl (hb hby at_179) rfl ?_
     refine XS.ifYes X325.here hx rfl (pc0 := 181) (pc' := 188) rfl (hb hby at_181) rfl ((if0 _ _).trans (teq (by decide : ((0 : Int32) = (0 : Int32)))).1) (by decide) (by decide) ?_
     refine XS.iconst X325.here hx rfl (hb hby at_188) ?_
     refine XS.iadd X325.here hx rfl (hb hby at_189) rfl ?_
     refine XS.istore X325.here hx rfl (hb hby at_190) rfl (l' := #[.val (.int p1), .val (.int p2), .val (.int p3), .val (.ref b101), .val (.ref b195), .val (.int (1 : Int32)), .val (.int (0 : Int32)), .val (.int (0 : Int32)), .val (.int (1 : Int32)), .val (.int (0 : Int32)), .unset, .unset]) rfl ?_
     refine XS.iload X325.here hx rfl (hb hby at_192) rfl ?_
     refine XS.ifYes X325.here hx rfl (pc0 := 194) (pc' := 229) rfl (hb hby at_194) rfl ((if0 _ _).trans (teq (by decide : ((0 : Int32) = (0 : Int32)))).1) (by decide) (by decide) ?_
     refine XS.iload X325.here hx rfl (hb hby at_229) rfl ?_
     refine XS.ifYes X325.here hx rfl (pc0 := 231) (pc' := 243) rfl (hb hby at_231) rfl ((if0 _ _).trans (teq (by decide : ((0 : Int32) = (0 : Int32)))).1) (by decide) (by decide) ?_
     refine XS.iconst X325.here hx rfl (hb hby at_243) ?_
     refine XS.istore X325.here hx rfl (hb hby at_244) rfl (l' := #[.val (.int p1), .val (.int p2), .val (.int p3), .val (.ref b101), .val (.ref b195), .val (.int (1 : Int32)), .val (.int (0 : Int32)), .val (.int (0 : Int32)), .val (.int (1 : Int32)), .val (.int (0 : Int32)), .val (.int (1 : Int32)), .unset]) rfl ?_
     refine XS.iconst X325.here hx rfl (hb hby at_246) ?_
     refine XS.istore X325.here hx rfl (hb hby at_247) rfl (l' := #[.val (.int p1), .val (.int p2), .val (.int p3), .val (.ref b101), .val (.ref b195), .val (.int (1 : Int32)), .val (.int (0 : Int32)), .val (.int (0 : Int32)), .val (.int (1 : Int32)), .val (.int (0 : Int32)), .val (.int (1 : Int32)), .val (.int (-1 : Int32))]) rfl ?_
     refine XS.aload X325.here hx rfl (hb hby at_249) rfl rfl ?_
     exact k_)
    obtain ⟨cq350, kq350, q350a, q350b, q350c⟩ := isOf hZ152 rfl q325_F0
    obtain ⟨_, _, ⟨T350, L350, k350, n350⟩, -, X350, ⟨Lc350, hQ350, l350, y350, z350⟩, st350⟩ := X325.virtualBack hx (y := (⟨"com/example/arcward/arcward/solver/Domains", "resizedCount", "()I"⟩ : MethodName)) (z := (⟨"com/example/arcward/arcward/solver/Domains", "resizedCount", "()I"⟩ : MethodName)) hown152 (mvT hZ152 (own_w hw 308 rfl)) (mvT hZ152 (own_w hw 309 rfl)) (notFace_of_selects (args := #[]) (mvT hZ152 (own_w hw 311 rfl))) (mvT hZ152 (own_w hw 311 rfl)) (mvT hZ152 (own_w hw 310 rfl)) (by decide) (backOf (W := 0) (rm38 l Z a0 hw [] b195 (own_rc p2) T325.heap n0 (Nat.le_trans Z0 K332.1) q325_F7) hZ152 (own_w hw 312 rfl) (own_w hw 91 rfl) (by decide) (by decide)) q350a q350c (g := (mkF m 251 #[.val (.int p1), .val (.int p2), .val (.int p3), .val (.ref b101), .val (.ref b195), .val (.int (1 : Int32)), .val (.int (0 : Int32)), .val (.int (0 : Int32)), .val (.int (1 : Int32)), .val (.int (0 : Int32)), .val (.int (1 : Int32)), .val (.int (-1 : Int32))] [(.ref b195)])) rfl (by rw [hml]; rfl) (Steps.refl _) (argsL := []) (rest := []) (lenOf pd13 rfl) rfl (by show 2 * 0 + _ ≤ _; exact Nat.le_of_eq rfl) (hb hby at_251) (fun _ _ => ⟨rfl, rfl, (by decide : 26 + 0 ≤ _), (by decide : 170 + 0 ≤ _)⟩)
    dsimp only [Pt.U, Pt.locs, Pt.cells, Pt.slots] at X350 l350 y350 z350 st350 hQ350
    subst l350 y350 z350
    obtain ⟨rfl, N350q, q350_hh⟩ := hQ350
    have N350 := Fr.app N325 N350q
    have p351 : Go p.tables e below _ (T350.setTop (mkF m 256 #[.val (.int p1), .val (.int p2), .val (.int p3), .val (.ref b101), .val (.ref b195), .val (.int (1 : Int32)), .val (.int (0 : Int32)), .val (.int (0 : Int32)), .val (.int (1 : Int32)), .val (.int (0 : Int32)), .val (.int (1 : Int32)), .val (.int (-1 : Int32))] [(.int (0 : Int32)), (.int (own_rc p2))])) := fun t_ k_ => (gcT p349 st350) t_ (by
     refine XS.iload X350.here hx rfl (hb hby at_254) rfl ?_
     exact k_)
    have c352 : ((own_rc p2) = (0 : Int32)) := by simp [own_rc, c334, c337, c340]
    have p353 : Go p.tables e below _ (T350.setTop (mkF m 301 #[.val (.int p1), .val (.int p2), .val (.int p3), .val (.ref b101), .val (.ref b195), .val (.int (1 : Int32)), .val (.int (0 : Int32)), .val (.int (0 : Int32)), .val (.int (1 : Int32)), .val (.int (0 : Int32)), .val (.int (1 : Int32)), .val (.int (-1 : Int32))] [(.int (1 : Int32))])) := fun t_ k_ => p351 t_ (by
     refine XS.icmpYes X350.here hx rfl (pc0 := 256) (pc' := 261) rfl (hb hby at_256) rfl (teq c352).1 (by decide) (by decide) ?_
     refine XS.iload X350.here hx rfl (hb hby at_261) rfl ?_
     refine XS.iconst X350.here hx rfl (hb hby at_263) ?_
     refine XS.icmpYes X350.here hx rfl (pc0 := 264) (pc' := 280) rfl (hb hby at_264) rfl (tlt (by decide : ((0 : Int32) < (1 : Int32)))).1 (by decide) (by decide) ?_
     refine XS.iload X350.here hx rfl (hb hby at_280) rfl ?_
     refine XS.iconst X350.here hx rfl (hb hby at_282) ?_
     refine XS.icmpYes X350.here hx rfl (pc0 := 283) (pc' := 299) rfl (hb hby at_283) rfl (feq (by decide : ¬ ((0 : Int32) = (2 : Int32)))).2 (by decide) (by decide) ?_
     refine XS.iload X350.here hx rfl (hb hby at_299) rfl ?_
     exact k_)
    have f354 := (Nat.le_trans kb307 q325_K.1)
    obtain ⟨fs, hr, hrun, hended, hRW⟩ := X350.leaveW (s := s) S152 (by rw [q350_hh]; exact f354) (v := some (.int (1 : Int32))) (fun h => by rw [Bd.returns] at h; cases h)
    refine ⟨_, _, p353 _ (retN X350 hx (t := .boolean) Bd.returns (by simp) (hb hby at_301) hr), hrun, hended, _, _, rfl, ?_, hRW.1, hRW.2.1, hRW.2.2.1, hRW.2.2.2.mono (by decide) (by decide)⟩
    show Q0 Z p1 p2 p3 de kde el ea kea em mr h0 n0 _ T350.heap _
    rw [q350_hh]
    exact ⟨rfl, N350⟩
  ·have p355 : Go p.tables e below _ (T325.setTop (mkF m 149 #[.val (.int p1), .val (.int p2), .val (.int p3), .val (.ref b101), .val (.ref b195), .val (.int (1 : Int32)), .val (.int (0 : Int32)), .unset, .unset, .unset, .unset, .unset] [])) := fun t_ k_ => p336 t_ (by
    refine XS.ifNo X325.here hx rfl (hb hby at_146) rfl ((if0 _ _).trans (feq c337).1) ?_
    exact k_)
   have p356 : Go p.tables e below _ (T325.setTop (mkF m 159 #[.val (.int p1), .val (.int p2), .val (.int p3), .val (.ref b101), .val (.ref b195), .val (.int (1 : Int32)), .val (.int (0 : Int32)), .val (.int (1 : Int32)), .unset, .unset, .unset, .unset] [(.int (p2 &&& (4 : Int32)))])) := fun t_ k_ => p355 t_ (by
    refine XS.iconst X325.here hx rfl (hb hby at_149) ?_
    refine XS.goto X325.here hx rfl (pc0 := 150) (pc' := 154) rfl (hb hby at_150) (by decide) (by decide) ?_
    refine XS.istore X325.here hx rfl (hb hby at_154) rfl (l' := #[.val (.int p1), .val (.int p2), .val (.int p3), .val (.ref b101), .val (.ref b195), .val (.int (1 : Int32)), .val (.int (0 : Int32)), .val (.int (1 : Int32)), .unset, .unset, .unset, .unset]) rfl ?_
    refine XS.iloadN X325.here hx rfl (hb hby at_156) rfl ?_
    refine XS.iconst X325.here hx rfl (hb hby at_157) ?_
    refine XS.iand X325.here hx rfl (hb hby at_158) rfl ?_
    exact k_)
   by_cases c357 : (p2 &&& (4 : Int32)) = (0 : Int32)
   ·have p358 : Go p.tables e below _ (T325.setTop (mkF m 166 #[.val (.int p1), .val (.int p2), .val (.int p3), .val (.ref b101), .val (.ref b195), .val (.int (1 : Int32)), .val (.int (0 : Int32)), .val (.int (1 : Int32)), .unset, .unset, .unset, .unset] [])) := fun t_ k_ => p356 t_ (by
     refine XS.ifYes X325.here hx rfl (pc0 := 159) (pc' := 166) rfl (hb hby at_159) rfl ((if0 _ _).trans (teq c357).1) (by decide) (by decide) ?_
     exact k_)
    have p359 : Go p.tables e below _ (T325.setTop (mkF m 251 #[.val (.int p1), .val (.int p2), .val (.int p3), .val (.ref b101), .val (.ref b195), .val (.int (1 : Int32)), .val (.int (0 : Int32)), .val (.int (1 : Int32)), .val (.int (0 : Int32)), .val (.int (1 : Int32)), .val (.int (1 : Int32)), .val (.int (-1 : Int32))] [(.ref b195)])) := fun t_ k_ => p358 t_ (by
     refine XS.iconst X325.here hx rfl (hb hby at_166) ?_
     refine XS.istore X325.here hx rfl (hb hby at_167) rfl (l' := #[.val (.int p1), .val (.int p2), .val (.int p3), .val (.ref b101), .val (.ref b195), .val (.int (1 : Int32)), .val (.int (0 : Int32)), .val (.int (1 : Int32)), .val (.int (0 : Int32)), .unset, .unset, .unset]) rfl ?_
     refine XS.iload X325.here hx rfl (hb hby at_169) rfl ?_
     refine XS.ifYes X325.here hx rfl (pc0 := 171) (pc' := 178) rfl (hb hby at_171) rfl ((if0 _ _).trans (teq (by decide : ((0 : Int32) = (0 : Int32)))).1) (by decide) (by decide) ?_
     refine XS.iconst X325.here hx rfl (hb hby at_178) ?_
     refine XS.iload X325.here hx rfl (hb hby at_179) rfl ?_
     refine XS.ifNo X325.here hx rfl (hb hby at_181) rfl ((if0 _ _).trans (feq (by decide : ¬ ((1 : Int32) = (0 : Int32)))).1) ?_
     refine XS.iconst X325.here hx rfl (hb hby at_184) ?_
     refine XS.goto X325.here hx rfl (pc0 := 185) (pc' := 189) rfl (hb hby at_185) (by decide) (by decide) ?_
     refine XS.iadd X325.here hx rfl (hb hby at_189) rfl ?_
     refine XS.istore X325.here hx rfl (hb hby at_190) rfl (l' := #[.val (.int p1), .val (.int p2), .val (.int p3), .val (.ref b101), .val (.ref b195), .val (.int (1 : Int32)), .val (.int (0 : Int32)), .val (.int (1 : Int32)), .val (.int (0 : Int32)), .val (.int (1 : Int32)), .unset, .unset]) rfl ?_
     refine XS.iload X325.here hx rfl (hb hby at_192) rfl ?_
     refine XS.ifYes X325.here hx rfl (pc0 := 194) (pc' := 229) rfl (hb hby at_194) rfl ((if0 _ _).trans (teq (by decide : ((0 : Int32) = (0 : Int32)))).1) (by decide) (by decide) ?_
     refine XS.iload X325.here hx rfl (hb hby at_229) rfl ?_
     refine XS.ifYes X325.here hx rfl (pc0 := 231) (pc' := 243) rfl (hb hby at_231) rfl ((if0 _ _).trans (teq (by decide : ((0 : Int32) = (0 : Int32)))).1) (by decide) (by decide) ?_
     refine XS.iconst X325.here hx rfl (hb hby at_243) ?_
     refine XS.istore X325.here hx rfl (hb hby at_244) rfl (l' := #[.val (.int p1), .val (.int p2), .val (.int p3), .val (.ref b101), .val (.ref b195), .val (.int (1 : Int32)), .val (.int (0 : Int32)), .val (.int (1 : Int32)), .val (.int (0 : Int32)), .val (.int (1 : Int32)), .val (.int (1 : Int32)), .unset]) rfl ?_
     refine XS.iconst X325.here hx rfl (hb hby at_246) ?_
     refine XS.istore X325.here hx rfl (hb hby at_247) rfl (l' := #[.val (.int p1), .val (.int p2), .val (.int p3), .val (.ref b101), .val (.ref b195), .val (.int (1 : Int32)), .val (.int (0 : Int32)), .val (.int (1 : Int32)), .val (.int (0 : Int32)), .val (.int (1 : Int32)), .val (.int (1 : Int32)), .val (.int (-1 : Int32))]) rfl ?_
     refine XS.aload X325.here hx rfl (hb hby at_249) rfl rfl ?_
     exact k_)
    obtain ⟨cq360, kq360, q360a, q360b, q360c⟩ := isOf hZ152 rfl q325_F0
    obtain ⟨_, _, ⟨T360, L360, k360, n360⟩, -, X360, ⟨Lc360, hQ360, l360, y360, z360⟩, st360⟩ := X325.virtualBack hx (y := (⟨"com/example/arcward/arcward/solver/Domains", "resizedCount", "()I"⟩ : MethodName)) (z := (⟨"com/example/arcward/arcward/solver/Domains", "resizedCount", "()I"⟩ : MethodName)) hown152 (mvT hZ152 (own_w hw 308 rfl)) (mvT hZ152 (own_w hw 309 rfl)) (notFace_of_selects (args := #[]) (mvT hZ152 (own_w hw 311 rfl))) (mvT hZ152 (own_w hw 311 rfl)) (mvT hZ152 (own_w hw 310 rfl)) (by decide) (backOf (W := 0) (rm38 l Z a0 hw [] b195 (own_rc p2) T325.heap n0 (Nat.le_trans Z0 K332.1) q325_F7) hZ152 (own_w hw 312 rfl) (own_w hw 91 rfl) (by decide) (by decide)) q360a q360c (g := (mkF m 251 #[.val (.int p1), .val (.int p2), .val (.int p3), .val (.ref b101), .val (.ref b195), .val (.int (1 : Int32)), .val (.int (0 : Int32)), .val (.int (1 : Int32)), .val (.int (0 : Int32)), .val (.int (1 : Int32)), .val (.int (1 : Int32)), .val (.int (-1 : Int32))] [(.ref b195)])) rfl (by rw [hml]; rfl) (Steps.refl _) (argsL := []) (rest := []) (lenOf pd13 rfl) rfl (by show 2 * 0 + _ ≤ _; exact Nat.le_of_eq rfl) (hb hby at_251) (fun _ _ => ⟨rfl, rfl, (by decide : 26 + 0 ≤ _), (by decide : 170 + 0 ≤ _)⟩)
    dsimp only [Pt.U, Pt.locs, Pt.cells, Pt.slots] at X360 l360 y360 z360 st360 hQ360
    subst l360 y360 z360
    obtain ⟨rfl, N360q, q360_hh⟩ := hQ360
    have N360 := Fr.app N325 N360q
    have p361 : Go p.tables e below _ (T360.setTop (mkF m 256 #[.val (.int p1), .val (.int p2), .val (.int p3), .val (.ref b101), .val (.ref b195), .val (.int (1 : Int32)), .val (.int (0 : Int32)), .val (.int (1 : Int32)), .val (.int (0 : Int32)), .val (.int (1 : Int32)), .val (.int (1 : Int32)), .val (.int (-1 : Int32))] [(.int (1 : Int32)), (.int (own_rc p2))])) := fun t_ k_ => (gcT p359 st360) t_ (by
     refine XS.iload X360.here hx rfl (hb hby at_254) rfl ?_
     exact k_)
    have c362 : ((own_rc p2) = (1 : Int32)) := by simp [own_rc, c334, c337, c357]
    have p363 : Go p.tables e below _ (T360.setTop (mkF m 270 #[.val (.int p1), .val (.int p2), .val (.int p3), .val (.ref b101), .val (.ref b195), .val (.int (1 : Int32)), .val (.int (0 : Int32)), .val (.int (1 : Int32)), .val (.int (0 : Int32)), .val (.int (1 : Int32)), .val (.int (1 : Int32)), .val (.int (-1 : Int32))] [(.int (0 : Int32)), (.ref b195)])) := fun t_ k_ => p361 t_ (by
     refine XS.icmpYes X360.here hx rfl (pc0 := 256) (pc' := 261) rfl (hb hby at_256) rfl (teq c362).1 (by decide) (by decide) ?_
     refine XS.iload X360.here hx rfl (hb hby at_261) rfl ?_
     refine XS.iconst X360.here hx rfl (hb hby at_263) ?_
     refine XS.icmpNo X360.here hx rfl (hb hby at_264) rfl (flt (by decide : ¬ ((1 : Int32) < (1 : Int32)))).1 ?_
     refine XS.aload X360.here hx rfl (hb hby at_267) rfl rfl ?_
     refine XS.iconst X360.here hx rfl (hb hby at_269) ?_
     exact k_)
    obtain ⟨cq364, kq364, q364a, q364b, q364c⟩ := isOf hZ152 q360_hh q325_F0
    obtain ⟨_, _, ⟨T364, L364, k364, n364⟩, -, X364, ⟨Lc364, hQ364, l364, y364, z364⟩, st364⟩ := X360.virtualBack hx (y := (⟨"com/example/arcward/arcward/solver/Domains", "resized", "(I)I"⟩ : MethodName)) (z := (⟨"com/example/arcward/arcward/solver/Domains", "resized", "(I)I"⟩ : MethodName)) hown152 (mvT hZ152 (own_w hw 330 rfl)) (mvT hZ152 (own_w hw 331 rfl)) (notFace_of_selects (args := #[]) (mvT hZ152 (own_w hw 333 rfl))) (mvT hZ152 (own_w hw 333 rfl)) (mvT hZ152 (own_w hw 332 rfl)) (by decide) (backOf (W := 0) (rm42_0 l Z a0 hw [] b195 x275 x283 (own_ra p2 (own_ra p1 (0 : Int32))) (own_rb p2 (own_rb p1 (0 : Int32))) T325.heap n0 (Nat.le_trans Z0 K332.1) q325_F5 q325_F12) hZ152 (own_w hw 334 rfl) (own_w hw 91 rfl) (by decide) (by decide)) q364a q364c (g := (mkF m 270 #[.val (.int p1), .val (.int p2), .val (.int p3), .val (.ref b101), .val (.ref b195), .val (.int (1 : Int32)), .val (.int (0 : Int32)), .val (.int (1 : Int32)), .val (.int (0 : Int32)), .val (.int (1 : Int32)), .val (.int (1 : Int32)), .val (.int (-1 : Int32))] [(.int (0 : Int32)), (.ref b195)])) rfl (by rw [hml]; rfl) (Steps.refl _) (argsL := [(.int (0 : Int32))]) (rest := []) (lenOf pd17 rfl) rfl (by show 2 * 0 + _ ≤ _; exact Nat.le_of_eq rfl) (hb hby at_270) (fun _ _ => ⟨rfl, q360_hh, (by decide : 26 + 0 ≤ _), (by decide : 170 + 0 ≤ _)⟩)
    dsimp only [Pt.U, Pt.locs, Pt.cells, Pt.slots] at X364 l364 y364 z364 st364 hQ364
    subst l364 y364 z364
    obtain ⟨rfl, N364q, q364_hh⟩ := hQ364
    have N364 := Fr.app N360 N364q
    have p365 : Go p.tables e below _ (T364.setTop (mkF m 275 #[.val (.int p1), .val (.int p2), .val (.int p3), .val (.ref b101), .val (.ref b195), .val (.int (1 : Int32)), .val (.int (0 : Int32)), .val (.int (1 : Int32)), .val (.int (0 : Int32)), .val (.int (1 : Int32)), .val (.int (1 : Int32)), .val (.int (-1 : Int32))] [(.int (1 : Int32)), (.int (own_ra p2 (own_ra p1 (0 : Int32))))])) := fun t_ k_ => (gcT p363 st364) t_ (by
     refine XS.iload X364.here hx rfl (hb hby at_273) rfl ?_
     exact k_)
    have c366 : ((own_ra p2 (own_ra p1 (0 : Int32))) = (1 : Int32)) := by simp [own_ra, c334, c337, c357]
    have p367 : Go p.tables e below _ (T364.setTop (mkF m 301 #[.val (.int p1), .val (.int p2), .val (.int p3), .val (.ref b101), .val (.ref b195), .val (.int (1 : Int32)), .val (.int (0 : Int32)), .val (.int (1 : Int32)), .val (.int (0 : Int32)), .val (.int (1 : Int32)), .val (.int (1 : Int32)), .val (.int (-1 : Int32))] [(.int (1 : Int32))])) := fun t_ k_ => p365 t_ (by
     refine XS.icmpYes X364.here hx rfl (pc0 := 275) (pc' := 280) rfl (hb hby at_275) rfl (teq c366).1 (by decide) (by decide) ?_
     refine XS.iload X364.here hx rfl (hb hby at_280) rfl ?_
     refine XS.iconst X364.here hx rfl (hb hby at_282) ?_
     refine XS.icmpYes X364.here hx rfl (pc0 := 283) (pc' := 299) rfl (hb hby at_283) rfl (feq (by decide : ¬ ((1 : Int32) = (2 : Int32)))).2 (by decide) (by decide) ?_
     refine XS.iload X364.here hx rfl (hb hby at_299) rfl ?_
     exact k_)
    have f368 := (Nat.le_trans kb307 q325_K.1)
    obtain ⟨fs, hr, hrun, hended, hRW⟩ := X364.leaveW (s := s) S152 (by rw [q364_hh]; exact f368) (v := some (.int (1 : Int32))) (fun h => by rw [Bd.returns] at h; cases h)
    refine ⟨_, _, p367 _ (retN X364 hx (t := .boolean) Bd.returns (by simp) (hb hby at_301) hr), hrun, hended, _, _, rfl, ?_, hRW.1, hRW.2.1, hRW.2.2.1, hRW.2.2.2.mono (by decide) (by decide)⟩
    show Q0 Z p1 p2 p3 de kde el ea kea em mr h0 n0 _ T364.heap _
    rw [q364_hh]
    exact ⟨rfl, N364⟩
   ·have p369 : Go p.tables e below _ (T325.setTop (mkF m 162 #[.val (.int p1), .val (.int p2), .val (.int p3), .val (.ref b101), .val (.ref b195), .val (.int (1 : Int32)), .val (.int (0 : Int32)), .val (.int (1 : Int32)), .unset, .unset, .unset, .unset] [])) := fun t_ k_ => p356 t_ (by
     refine XS.ifNo X325.here hx rfl (hb hby at_159) rfl ((if0 _ _).trans (feq c357).1) ?_
     exact k_)
    have p370 : Go p.tables e below _ (T325.setTop (mkF m 251 #[.val (.int p1), .val (.int p2), .val (.int p3), .val (.ref b101), .val (.ref b195), .val (.int (1 : Int32)), .val (.int (0 : Int32)), .val (.int (1 : Int32)), .val (.int (1 : Int32)), .val (.int (1 : Int32)), .val (.int (1 : Int32)), .val (.int (-1 : Int32))] [(.ref b195)])) := fun t_ k_ => p369 t_ (by
     refine XS.iconst X325.here hx rfl (hb hby at_162) ?_
     refine XS.goto X325.here hx rfl (pc0 := 163) (pc' := 167) rfl (hb hby at_163) (by decide) (by decide) ?_
     refine XS.istore X325.here hx rfl (hb hby at_167) rfl (l' := #[.val (.int p1), .val (.int p2), .val (.int p3), .val (.ref b101), .val (.ref b195), .val (.int (1 : Int32)), .val (.int (0 : Int32)), .val (.int (1 : Int32)), .val (.int (1 : Int32)), .unset, .unset, .unset]) rfl ?_
     refine XS.iload X325.here hx rfl (hb hby at_169) rfl ?_
     refine XS.ifYes X325.here hx rfl (pc0 := 171) (pc' := 178) rfl (hb hby at_171) rfl ((if0 _ _).trans (teq (by decide : ((0 : Int32) = (0 : Int32)))).1) (by decide) (by decide) ?_
     refine XS.iconst X325.here hx rfl (hb hby at_178) ?_
     refine XS.iload X325.here hx rfl (hb hby at_179) rfl ?_
     refine XS.ifNo X325.here hx rfl (hb hby at_181) rfl ((if0 _ _).trans (feq (by decide : ¬ ((1 : Int32) = (0 : Int32)))).1) ?_
     refine XS.iconst X325.here hx rfl (hb hby at_184) ?_
     refine XS.goto X325.here hx rfl (pc0 := 185) (pc' := 189) rfl (hb hby at_185) (by decide) (by decide) ?_
     refine XS.iadd X325.here hx rfl (hb hby at_189) rfl ?_
     refine XS.istore X325.here hx rfl (hb hby at_190) rfl (l' := #[.val (.int p1), .val (.int p2), .val (.int p3), .val (.ref b101), .val (.ref b195), .val (.int (1 : Int32)), .val (.int (0 : Int32)), .val (.int (1 : Int32)), .val (.int (1 : Int32)), .val (.int (1 : Int32)), .unset, .unset]) rfl ?_
     refine XS.iload X325.here hx rfl (hb hby at_192) rfl ?_
     refine XS.ifYes X325.here hx rfl (pc0 := 194) (pc' := 229) rfl (hb hby at_194) rfl ((if0 _ _).trans (teq (by decide : ((0 : Int32) = (0 : Int32)))).1) (by decide) (by decide) ?_
     refine XS.iload X325.here hx rfl (hb hby at_229) rfl ?_
     refine XS.ifYes X325.here hx rfl (pc0 := 231) (pc' := 243) rfl (hb hby at_231) rfl ((if0 _ _).trans (teq (by decide : ((0 : Int32) = (0 : Int32)))).1) (by decide) (by decide) ?_
     refine XS.iconst X325.here hx rfl (hb hby at_243) ?_
     refine XS.istore X325.here hx rfl (hb hby at_244) rfl (l' := #[.val (.int p1), .val (.int p2), .val (.int p3), .val (.ref b101), .val (.ref b195), .val (.int (1 : Int32)), .val (.int (0 : Int32)), .val (.int (1 : Int32)), .val (.int (1 : Int32)), .val (.int (1 : Int32)), .val (.int (1 : Int32)), .unset]) rfl ?_
     refine XS.iconst X325.here hx rfl (hb hby at_246) ?_
     refine XS.istore X325.here hx rfl (hb hby at_247) rfl (l' := #[.val (.int p1), .val (.int p2), .val (.int p3), .val (.ref b101), .val (.ref b195), .val (.int (1 : Int32)), .val (.int (0 : Int32)), .val (.int (1 : Int32)), .val (.int (1 : Int32)), .val (.int (1 : Int32)), .val (.int (1 : Int32)), .val (.int (-1 : Int32))]) rfl ?_
     refine XS.aload X325.here hx rfl (hb hby at_249) rfl rfl ?_
     exact k_)
    obtain ⟨cq371, kq371, q371a, q371b, q371c⟩ := isOf hZ152 rfl q325_F0
    obtain ⟨_, _, ⟨T371, L371, k371, n371⟩, -, X371, ⟨Lc371, hQ371, l371, y371, z371⟩, st371⟩ := X325.virtualBack hx (y := (⟨"com/example/arcward/arcward/solver/Domains", "resizedCount", "()I"⟩ : MethodName)) (z := (⟨"com/example/arcward/arcward/solver/Domains", "resizedCount", "()I"⟩ : MethodName)) hown152 (mvT hZ152 (own_w hw 308 rfl)) (mvT hZ152 (own_w hw 309 rfl)) (notFace_of_selects (args := #[]) (mvT hZ152 (own_w hw 311 rfl))) (mvT hZ152 (own_w hw 311 rfl)) (mvT hZ152 (own_w hw 310 rfl)) (by decide) (backOf (W := 0) (rm38 l Z a0 hw [] b195 (own_rc p2) T325.heap n0 (Nat.le_trans Z0 K332.1) q325_F7) hZ152 (own_w hw 312 rfl) (own_w hw 91 rfl) (by decide) (by decide)) q371a q371c (g := (mkF m 251 #[.val (.int p1), .val (.int p2), .val (.int p3), .val (.ref b101), .val (.ref b195), .val (.int (1 : Int32)), .val (.int (0 : Int32)), .val (.int (1 : Int32)), .val (.int (1 : Int32)), .val (.int (1 : Int32)), .val (.int (1 : Int32)), .val (.int (-1 : Int32))] [(.ref b195)])) rfl (by rw [hml]; rfl) (Steps.refl _) (argsL := []) (rest := []) (lenOf pd13 rfl) rfl (by show 2 * 0 + _ ≤ _; exact Nat.le_of_eq rfl) (hb hby at_251) (fun _ _ => ⟨rfl, rfl, (by decide : 26 + 0 ≤ _), (by decide : 170 + 0 ≤ _)⟩)
    dsimp only [Pt.U, Pt.locs, Pt.cells, Pt.slots] at X371 l371 y371 z371 st371 hQ371
    subst l371 y371 z371
    obtain ⟨rfl, N371q, q371_hh⟩ := hQ371
    have N371 := Fr.app N325 N371q
    have p372 : Go p.tables e below _ (T371.setTop (mkF m 256 #[.val (.int p1), .val (.int p2), .val (.int p3), .val (.ref b101), .val (.ref b195), .val (.int (1 : Int32)), .val (.int (0 : Int32)), .val (.int (1 : Int32)), .val (.int (1 : Int32)), .val (.int (1 : Int32)), .val (.int (1 : Int32)), .val (.int (-1 : Int32))] [(.int (1 : Int32)), (.int (own_rc p2))])) := fun t_ k_ => (gcT p370 st371) t_ (by
     refine XS.iload X371.here hx rfl (hb hby at_254) rfl ?_
     exact k_)
    have c373 : ((own_rc p2) = (1 : Int32)) := by simp [own_rc, c334, c337, c357]
    have p374 : Go p.tables e below _ (T371.setTop (mkF m 270 #[.val (.int p1), .val (.int p2), .val (.int p3), .val (.ref b101), .val (.ref b195), .val (.int (1 : Int32)), .val (.int (0 : Int32)), .val (.int (1 : Int32)), .val (.int (1 : Int32)), .val (.int (1 : Int32)), .val (.int (1 : Int32)), .val (.int (-1 : Int32))] [(.int (0 : Int32)), (.ref b195)])) := fun t_ k_ => p372 t_ (by
     refine XS.icmpYes X371.here hx rfl (pc0 := 256) (pc' := 261) rfl (hb hby at_256) rfl (teq c373).1 (by decide) (by decide) ?_
     refine XS.iload X371.here hx rfl (hb hby at_261) rfl ?_
     refine XS.iconst X371.here hx rfl (hb hby at_263) ?_
     refine XS.icmpNo X371.here hx rfl (hb hby at_264) rfl (flt (by decide : ¬ ((1 : Int32) < (1 : Int32)))).1 ?_
     refine XS.aload X371.here hx rfl (hb hby at_267) rfl rfl ?_
     refine XS.iconst X371.here hx rfl (hb hby at_269) ?_
     exact k_)
    obtain ⟨cq375, kq375, q375a, q375b, q375c⟩ := isOf hZ152 q371_hh q325_F0
    obtain ⟨_, _, ⟨T375, L375, k375, n375⟩, -, X375, ⟨Lc375, hQ375, l375, y375, z375⟩, st375⟩ := X371.virtualBack hx (y := (⟨"com/example/arcward/arcward/solver/Domains", "resized", "(I)I"⟩ : MethodName)) (z := (⟨"com/example/arcward/arcward/solver/Domains", "resized", "(I)I"⟩ : MethodName)) hown152 (mvT hZ152 (own_w hw 330 rfl)) (mvT hZ152 (own_w hw 331 rfl)) (notFace_of_selects (args := #[]) (mvT hZ152 (own_w hw 333 rfl))) (mvT hZ152 (own_w hw 333 rfl)) (mvT hZ152 (own_w hw 332 rfl)) (by decide) (backOf (W := 0) (rm42_0 l Z a0 hw [] b195 x275 x283 (own_ra p2 (own_ra p1 (0 : Int32))) (own_rb p2 (own_rb p1 (0 : Int32))) T325.heap n0 (Nat.le_trans Z0 K332.1) q325_F5 q325_F12) hZ152 (own_w hw 334 rfl) (own_w hw 91 rfl) (by decide) (by decide)) q375a q375c (g := (mkF m 270 #[.val (.int p1), .val (.int p2), .val (.int p3), .val (.ref b101), .val (.ref b195), .val (.int (1 : Int32)), .val (.int (0 : Int32)), .val (.int (1 : Int32)), .val (.int (1 : Int32)), .val (.int (1 : Int32)), .val (.int (1 : Int32)), .val (.int (-1 : Int32))] [(.int (0 : Int32)), (.ref b195)])) rfl (by rw [hml]; rfl) (Steps.refl _) (argsL := [(.int (0 : Int32))]) (rest := []) (lenOf pd17 rfl) rfl (by show 2 * 0 + _ ≤ _; exact Nat.le_of_eq rfl) (hb hby at_270) (fun _ _ => ⟨rfl, q371_hh, (by decide : 26 + 0 ≤ _), (by decide : 170 + 0 ≤ _)⟩)
    dsimp only [Pt.U, Pt.locs, Pt.cells, Pt.slots] at X375 l375 y375 z375 st375 hQ375
    subst l375 y375 z375
    obtain ⟨rfl, N375q, q375_hh⟩ := hQ375
    have N375 := Fr.app N371 N375q
    have p376 : Go p.tables e below _ (T375.setTop (mkF m 275 #[.val (.int p1), .val (.int p2), .val (.int p3), .val (.ref b101), .val (.ref b195), .val (.int (1 : Int32)), .val (.int (0 : Int32)), .val (.int (1 : Int32)), .val (.int (1 : Int32)), .val (.int (1 : Int32)), .val (.int (1 : Int32)), .val (.int (-1 : Int32))] [(.int (1 : Int32)), (.int (own_ra p2 (own_ra p1 (0 : Int32))))])) := fun t_ k_ => (gcT p374 st375) t_ (by
     refine XS.iload X375.here hx rfl (hb hby at_273) rfl ?_
     exact k_)
    have c377 : ((own_ra p2 (own_ra p1 (0 : Int32))) = (1 : Int32)) := by simp [own_ra, c334, c337, c357]
    have p378 : Go p.tables e below _ (T375.setTop (mkF m 301 #[.val (.int p1), .val (.int p2), .val (.int p3), .val (.ref b101), .val (.ref b195), .val (.int (1 : Int32)), .val (.int (0 : Int32)), .val (.int (1 : Int32)), .val (.int (1 : Int32)), .val (.int (1 : Int32)), .val (.int (1 : Int32)), .val (.int (-1 : Int32))] [(.int (1 : Int32))])) := fun t_ k_ => p376 t_ (by
     refine XS.icmpYes X375.here hx rfl (pc0 := 275) (pc' := 280) rfl (hb hby at_275) rfl (teq c377).1 (by decide) (by decide) ?_
     refine XS.iload X375.here hx rfl (hb hby at_280) rfl ?_
     refine XS.iconst X375.here hx rfl (hb hby at_282) ?_
     refine XS.icmpYes X375.here hx rfl (pc0 := 283) (pc' := 299) rfl (hb hby at_283) rfl (feq (by decide : ¬ ((1 : Int32) = (2 : Int32)))).2 (by decide) (by decide) ?_
     refine XS.iload X375.here hx rfl (hb hby at_299) rfl ?_
     exact k_)
    have f379 := (Nat.le_trans kb307 q325_K.1)
    obtain ⟨fs, hr, hrun, hended, hRW⟩ := X375.leaveW (s := s) S152 (by rw [q375_hh]; exact f379) (v := some (.int (1 : Int32))) (fun h => by rw [Bd.returns] at h; cases h)
    refine ⟨_, _, p378 _ (retN X375 hx (t := .boolean) Bd.returns (by simp) (hb hby at_301) hr), hrun, hended, _, _, rfl, ?_, hRW.1, hRW.2.1, hRW.2.2.1, hRW.2.2.2.mono (by decide) (by decide)⟩
    show Q0 Z p1 p2 p3 de kde el ea kea em mr h0 n0 _ T375.heap _
    rw [q375_hh]
    exact ⟨rfl, N375⟩
 ·have p380 : Go p.tables e below _ (T325.setTop (mkF m 136 #[.val (.int p1), .val (.int p2), .val (.int p3), .val (.ref b101), .val (.ref b195), .val (.int (1 : Int32)), .unset, .unset, .unset, .unset, .unset, .unset] [])) := fun t_ k_ => p333 t_ (by
   refine XS.ifNo X325.here hx rfl (hb hby at_133) rfl ((if0 _ _).trans (feq c334).1) ?_
   exact k_)
  have p381 : Go p.tables e below _ (T325.setTop (mkF m 146 #[.val (.int p1), .val (.int p2), .val (.int p3), .val (.ref b101), .val (.ref b195), .val (.int (1 : Int32)), .val (.int (1 : Int32)), .unset, .unset, .unset, .unset, .unset] [(.int (p2 &&& (2 : Int32)))])) := fun t_ k_ => p380 t_ (by
   refine XS.iconst X325.here hx rfl (hb hby at_136) ?_
   refine XS.goto X325.here hx rfl (pc0 := 137) (pc' := 141) rfl (hb hby at_137) (by decide) (by decide) ?_
   refine XS.istore X325.here hx rfl (hb hby at_141) rfl (l' := #[.val (.int p1), .val (.int p2), .val (.int p3), .val (.ref b101), .val (.ref b195), .val (.int (1 : Int32)), .val (.int (1 : Int32)), .unset, .unset, .unset, .unset, .unset]) rfl ?_
   refine XS.iloadN X325.here hx rfl (hb hby at_143) rfl ?_
   refine XS.iconst X325.here hx rfl (hb hby at_144) ?_
   refine XS.iand X325.here hx rfl (hb hby at_145) rfl ?_
   exact k_)
  by_cases c382 : (p2 &&& (2 : Int32)) = (0 : Int32)
  ·have p383 : Go p.tables e below _ (T325.setTop (mkF m 153 #[.val (.int p1), .val (.int p2), .val (.int p3), .val (.ref b101), .val (.ref b195), .val (.int (1 : Int32)), .val (.int (1 : Int32)), .unset, .unset, .unset, .unset, .unset] [])) := fun t_ k_ => p381 t_ (by
    refine XS.ifYes X325.here hx rfl (pc0 := 146) (pc' := 153) rfl (hb hby at_146) rfl ((if0 _ _).trans (teq c382).1) (by decide) (by decide) ?_
    exact k_)
   have p384 : Go p.tables e below _ (T325.setTop (mkF m 159 #[.val (.int p1), .val (.int p2), .val (.int p3), .val (.ref b101), .val (.ref b195), .val (.int (1 : Int32)), .val (.int (1 : Int32)), .val (.int (0 : Int32)), .unset, .unset, .unset, .unset] [(.int (p2 &&& (4 : Int32)))])) := fun t_ k_ => p383 t_ (by
    refine XS.iconst X325.here hx rfl (hb hby at_153) ?_
    refine XS.istore X325.here hx rfl (hb hby at_154) rfl (l' := #[.val (.int p1), .val (.int p2), .val (.int p3), .val (.ref b101), .val (.ref b195), .val (.int (1 : Int32)), .val (.int (1 : Int32)), .val (.int (0 : Int32)), .unset, .unset, .unset, .unset]) rfl ?_
    refine XS.iloadN X325.here hx rfl (hb hby at_156) rfl ?_
    refine XS.iconst X325.here hx rfl (hb hby at_157) ?_
    refine XS.iand X325.here hx rfl (hb hby at_158) rfl ?_
    exact k_)
   by_cases c385 : (p2 &&& (4 : Int32)) = (0 : Int32)
   ·have p386 : Go p.tables e below _ (T325.setTop (mkF m 166 #[.val (.int p1), .val (.int p2), .val (.int p3), .val (.ref b101), .val (.ref b195), .val (.int (1 : Int32)), .val (.int (1 : Int32)), .val (.int (0 : Int32)), .unset, .unset, .unset, .unset] [])) := fun t_ k_ => p384 t_ (by
     refine XS.ifYes X325.here hx rfl (pc0 := 159) (pc' := 166) rfl (hb hby at_159) rfl ((if0 _ _).trans (teq c385).1) (by decide) (by decide) ?_
     exact k_)
    have p387 : Go p.tables e below _ (T325.setTop (mkF m 251 #[.val (.int p1), .val (.int p2), .val (.int p3), .val (.ref b101), .val (.ref b195), .val (.int (1 : Int32)), .val (.int (1 : Int32)), .val (.int (0 : Int32)), .val (.int (0 : Int32)), .val (.int (1 : Int32)), .val (.int (0 : Int32)), .val (.int (-1 : Int32))] [(.ref b195)])) := fun t_ k_ => p386 t_ (by
     refine XS.iconst X325.here hx rfl (hb hby at_166) ?_
     refine XS.istore X325.here hx rfl (hb hby at_167) rfl (l' := #[.val (.int p1), .val (.int p2), .val (.int p3), .val (.ref b101), .val (.ref b195), .val (.int (1 : Int32)), .val (.int (1 : Int32)), .val (.int (0 : Int32)), .val (.int (0 : Int32)), .unset, .unset, .unset]) rfl ?_
     refine XS.iload X325.here hx rfl (hb hby at_169) rfl ?_
     refine XS.ifNo X325.here hx rfl (hb hby at_171) rfl ((if0 _ _).trans (feq (by decide : ¬ ((1 : Int32) = (0 : Int32)))).1) ?_
     refine XS.iconst X325.here hx rfl (hb hby at_174) ?_
     refine XS.goto X325.here hx rfl (pc0 := 175) (pc' := 179) rfl (hb hby at_175) (by decide) (by decide) ?_
     refine XS.iload X325.here hx rfl (hb hby at_179) rfl ?_
     refine XS.ifYes X325.here hx rfl (pc0 := 181) (pc' := 188) rfl (hb hby at_181) rfl ((if0 _ _).trans (teq (by decide : ((0 : Int32) = (0 : Int32)))).1) (by decide) (by decide) ?_
     refine XS.iconst X325.here hx rfl (hb hby at_188) ?_
     refine XS.iadd X325.here hx rfl (hb hby at_189) rfl ?_
     refine XS.istore X325.here hx rfl (hb hby at_190) rfl (l' := #[.val (.int p1), .val (.int p2), .val (.int p3), .val (.ref b101), .val (.ref b195), .val (.int (1 : Int32)), .val (.int (1 : Int32)), .val (.int (0 : Int32)), .val (.int (0 : Int32)), .val (.int (1 : Int32)), .unset, .unset]) rfl ?_
     refine XS.iload X325.here hx rfl (hb hby at_192) rfl ?_
     refine XS.ifNo X325.here hx rfl (hb hby at_194) rfl ((if0 _ _).trans (feq (by decide : ¬ ((1 : Int32) = (0 : Int32)))).1) ?_
     refine XS.iload X325.here hx rfl (hb hby at_197) rfl ?_
     refine XS.ifYes X325.here hx rfl (pc0 := 199) (pc' := 229) rfl (hb hby at_199) rfl ((if0 _ _).trans (teq (by decide : ((0 : Int32) = (0 : Int32)))).1) (by decide) (by decide) ?_
     refine XS.iload X325.here hx rfl (hb hby at_229) rfl ?_
     refine XS.ifNo X325.here hx rfl (hb hby at_231) rfl ((if0 _ _).trans (feq (by decide : ¬ ((1 : Int32) = (0 : Int32)))).1) ?_
     refine XS.iconst X325.here hx rfl (hb hby at_234) ?_
     refine XS.istore X325.here hx rfl (hb hby at_235) rfl (l' := #[.val (.int p1), .val (.int p2), .val (.int p3), .val (.ref b101), .val (.ref b195), .val (.int (1 : Int32)), .val (.int (1 : Int32)), .val (.int (0 : Int32)), .val (.int (0 : Int32)), .val (.int (1 : Int32)), .val (.int (0 : Int32)), .unset]) rfl ?_
     refine XS.iconst X325.here hx rfl (hb hby at_237) ?_
     refine XS.istore X325.here hx rfl (hb hby at_238) rfl (l' := #[.val (.int p1), .val (.int p2), .val (.int p3), .val (.ref b101), .val (.ref b195), .val (.int (1 : Int32)), .val (.int (1 : Int32)), .val (.int (0 : Int32)), .val (.int (0 : Int32)), .val (.int (1 : Int32)), .val (.int (0 : Int32)), .val (.int (-1 : Int32))]) rfl ?_
     refine XS.goto X325.here hx rfl (pc0 := 240) (pc' := 249) rfl (hb hby at_240) (by decide) (by decide) ?_
     refine XS.aload X325.here hx rfl (hb hby at_249) rfl rfl ?_
     exact k_)
    obtain ⟨cq388, kq388, q388a, q388b, q388c⟩ := isOf hZ152 rfl q325_F0
    obtain ⟨_, _, ⟨T388, L388, k388, n388⟩, -, X388, ⟨Lc388, hQ388, l388, y388, z388⟩, st388⟩ := X325.virtualBack hx (y := (⟨"com/example/arcward/arcward/solver/Domains", "resizedCount", "()I"⟩ : MethodName)) (z := (⟨"com/example/arcward/arcward/solver/Domains", "resizedCount", "()I"⟩ : MethodName)) hown152 (mvT hZ152 (own_w hw 308 rfl)) (mvT hZ152 (own_w hw 309 rfl)) (notFace_of_selects (args := #[]) (mvT hZ152 (own_w hw 311 rfl))) (mvT hZ152 (own_w hw 311 rfl)) (mvT hZ152 (own_w hw 310 rfl)) (by decide) (backOf (W := 0) (rm38 l Z a0 hw [] b195 (own_rc p2) T325.heap n0 (Nat.le_trans Z0 K332.1) q325_F7) hZ152 (own_w hw 312 rfl) (own_w hw 91 rfl) (by decide) (by decide)) q388a q388c (g := (mkF m 251 #[.val (.int p1), .val (.int p2), .val (.int p3), .val (.ref b101), .val (.ref b195), .val (.int (1 : Int32)), .val (.int (1 : Int32)), .val (.int (0 : Int32)), .val (.int (0 : Int32)), .val (.int (1 : Int32)), .val (.int (0 : Int32)), .val (.int (-1 : Int32))] [(.ref b195)])) rfl (by rw [hml]; rfl) (Steps.refl _) (argsL := []) (rest := []) (lenOf pd13 rfl) rfl (by show 2 * 0 + _ ≤ _; exact Nat.le_of_eq rfl) (hb hby at_251) (fun _ _ => ⟨rfl, rfl, (by decide : 26 + 0 ≤ _), (by decide : 170 + 0 ≤ _)⟩)
    dsimp only [Pt.U, Pt.locs, Pt.cells, Pt.slots] at X388 l388 y388 z388 st388 hQ388
    subst l388 y388 z388
    obtain ⟨rfl, N388q, q388_hh⟩ := hQ388
    have N388 := Fr.app N325 N388q
    have p389 : Go p.tables e below _ (T388.setTop (mkF m 256 #[.val (.int p1), .val (.int p2), .val (.int p3), .val (.ref b101), .val (.ref b195), .val (.int (1 : Int32)), .val (.int (1 : Int32)), .val (.int (0 : Int32)), .val (.int (0 : Int32)), .val (.int (1 : Int32)), .val (.int (0 : Int32)), .val (.int (-1 : Int32))] [(.int (1 : Int32)), (.int (own_rc p2))])) := fun t_ k_ => (gcT p387 st388) t_ (by
     refine XS.iload X388.here hx rfl (hb hby at_254) rfl ?_
     exact k_)
    have c390 : ((own_rc p2) = (1 : Int32)) := by simp [own_rc, c334, c382, c385]
    have p391 : Go p.tables e below _ (T388.setTop (mkF m 270 #[.val (.int p1), .val (.int p2), .val (.int p3), .val (.ref b101), .val (.ref b195), .val (.int (1 : Int32)), .val (.int (1 : Int32)), .val (.int (0 : Int32)), .val (.int (0 : Int32)), .val (.int (1 : Int32)), .val (.int (0 : Int32)), .val (.int (-1 : Int32))] [(.int (0 : Int32)), (.ref b195)])) := fun t_ k_ => p389 t_ (by
     refine XS.icmpYes X388.here hx rfl (pc0 := 256) (pc' := 261) rfl (hb hby at_256) rfl (teq c390).1 (by decide) (by decide) ?_
     refine XS.iload X388.here hx rfl (hb hby at_261) rfl ?_
     refine XS.iconst X388.here hx rfl (hb hby at_263) ?_
     refine XS.icmpNo X388.here hx rfl (hb hby at_264) rfl (flt (by decide : ¬ ((1 : Int32) < (1 : Int32)))).1 ?_
     refine XS.aload X388.here hx rfl (hb hby at_267) rfl rfl ?_
     refine XS.iconst X388.here hx rfl (hb hby at_269) ?_
     exact k_)
    obtain ⟨cq392, kq392, q392a, q392b, q392c⟩ := isOf hZ152 q388_hh q325_F0
    obtain ⟨_, _, ⟨T392, L392, k392, n392⟩, -, X392, ⟨Lc392, hQ392, l392, y392, z392⟩, st392⟩ := X388.virtualBack hx (y := (⟨"com/example/arcward/arcward/solver/Domains", "resized", "(I)I"⟩ : MethodName)) (z := (⟨"com/example/arcward/arcward/solver/Domains", "resized", "(I)I"⟩ : MethodName)) hown152 (mvT hZ152 (own_w hw 330 rfl)) (mvT hZ152 (own_w hw 331 rfl)) (notFace_of_selects (args := #[]) (mvT hZ152 (own_w hw 333 rfl))) (mvT hZ152 (own_w hw 333 rfl)) (mvT hZ152 (own_w hw 332 rfl)) (by decide) (backOf (W := 0) (rm42_0 l Z a0 hw [] b195 x275 x283 (own_ra p2 (own_ra p1 (0 : Int32))) (own_rb p2 (own_rb p1 (0 : Int32))) T325.heap n0 (Nat.le_trans Z0 K332.1) q325_F5 q325_F12) hZ152 (own_w hw 334 rfl) (own_w hw 91 rfl) (by decide) (by decide)) q392a q392c (g := (mkF m 270 #[.val (.int p1), .val (.int p2), .val (.int p3), .val (.ref b101), .val (.ref b195), .val (.int (1 : Int32)), .val (.int (1 : Int32)), .val (.int (0 : Int32)), .val (.int (0 : Int32)), .val (.int (1 : Int32)), .val (.int (0 : Int32)), .val (.int (-1 : Int32))] [(.int (0 : Int32)), (.ref b195)])) rfl (by rw [hml]; rfl) (Steps.refl _) (argsL := [(.int (0 : Int32))]) (rest := []) (lenOf pd17 rfl) rfl (by show 2 * 0 + _ ≤ _; exact Nat.le_of_eq rfl) (hb hby at_270) (fun _ _ => ⟨rfl, q388_hh, (by decide : 26 + 0 ≤ _), (by decide : 170 + 0 ≤ _)⟩)
    dsimp only [Pt.U, Pt.locs, Pt.cells, Pt.slots] at X392 l392 y392 z392 st392 hQ392
    subst l392 y392 z392
    obtain ⟨rfl, N392q, q392_hh⟩ := hQ392
    have N392 := Fr.app N388 N392q
    have p393 : Go p.tables e below _ (T392.setTop (mkF m 275 #[.val (.int p1), .val (.int p2), .val (.int p3), .val (.ref b101), .val (.ref b195), .val (.int (1 : Int32)), .val (.int (1 : Int32)), .val (.int (0 : Int32)), .val (.int (0 : Int32)), .val (.int (1 : Int32)), .val (.int (0 : Int32)), .val (.int (-1 : Int32))] [(.int (0 : Int32)), (.int (own_ra p2 (own_ra p1 (0 : Int32))))])) := fun t_ k_ => (gcT p391 st392) t_ (by
     refine XS.iload X392.here hx rfl (hb hby at_273) rfl ?_
     exact k_)
    have c394 : ((own_ra p2 (own_ra p1 (0 : Int32))) = (0 : Int32)) := by simp [own_ra, c334, c382, c385]
    have p395 : Go p.tables e below _ (T392.setTop (mkF m 301 #[.val (.int p1), .val (.int p2), .val (.int p3), .val (.ref b101), .val (.ref b195), .val (.int (1 : Int32)), .val (.int (1 : Int32)), .val (.int (0 : Int32)), .val (.int (0 : Int32)), .val (.int (1 : Int32)), .val (.int (0 : Int32)), .val (.int (-1 : Int32))] [(.int (1 : Int32))])) := fun t_ k_ => p393 t_ (by
     refine XS.icmpYes X392.here hx rfl (pc0 := 275) (pc' := 280) rfl (hb hby at_275) rfl (teq c394).1 (by decide) (by decide) ?_
     refine XS.iload X392.here hx rfl (hb hby at_280) rfl ?_
     refine XS.iconst X392.here hx rfl (hb hby at_282) ?_
     refine XS.icmpYes X392.here hx rfl (pc0 := 283) (pc' := 299) rfl (hb hby at_283) rfl (feq (by decide : ¬ ((1 : Int32) = (2 : Int32)))).2 (by decide) (by decide) ?_
     refine XS.iload X392.here hx rfl (hb hby at_299) rfl ?_
     exact k_)
    have f396 := (Nat.le_trans kb307 q325_K.1)
    obtain ⟨fs, hr, hrun, hended, hRW⟩ := X392.leaveW (s := s) S152 (by rw [q392_hh]; exact f396) (v := some (.int (1 : Int32))) (fun h => by rw [Bd.returns] at h; cases h)
    refine ⟨_, _, p395 _ (retN X392 hx (t := .boolean) Bd.returns (by simp) (hb hby at_301) hr), hrun, hended, _, _, rfl, ?_, hRW.1, hRW.2.1, hRW.2.2.1, hRW.2.2.2.mono (by decide) (by decide)⟩
    show Q0 Z p1 p2 p3 de kde el ea kea em mr h0 n0 _ T392.heap _
    rw [q392_hh]
    exact ⟨rfl, N392⟩
   ·have p397 : Go p.tables e below _ (T325.setTop (mkF m 162 #[.val (.int p1), .val (.int p2), .val (.int p3), .val (.ref b101), .val (.ref b195), .val (.int (1 : Int32)), .val (.int (1 : Int32)), .val (.int (0 : Int32)), .unset, .unset, .unset, .unset] [])) := fun t_ k_ => p384 t_ (by
     refine XS.ifNo X325.here hx rfl (hb hby at_159) rfl ((if0 _ _).trans (feq c385).1) ?_
     exact k_)
    have p398 : Go p.tables e below _ (T325.setTop (mkF m 251 #[.val (.int p1), .val (.int p2), .val (.int p3), .val (.ref b101), .val (.ref b195), .val (.int (1 : Int32)), .val (.int (1 : Int32)), .val (.int (0 : Int32)), .val (.int (1 : Int32)), .val (.int (1 : Int32)), .val (.int (0 : Int32)), .val (.int (-1 : Int32))] [(.ref b195)])) := fun t_ k_ => p397 t_ (by
     refine XS.iconst X325.here hx rfl (hb hby at_162) ?_
     refine XS.goto X325.here hx rfl (pc0 := 163) (pc' := 167) rfl (hb hby at_163) (by decide) (by decide) ?_
     refine XS.istore X325.here hx rfl (hb hby at_167) rfl (l' := #[.val (.int p1), .val (.int p2), .val (.int p3), .val (.ref b101), .val (.ref b195), .val (.int (1 : Int32)), .val (.int (1 : Int32)), .val (.int (0 : Int32)), .val (.int (1 : Int32)), .unset, .unset, .unset]) rfl ?_
     refine XS.iload X325.here hx rfl (hb hby at_169) rfl ?_
     refine XS.ifNo X325.here hx rfl (hb hby at_171) rfl ((if0 _ _).trans (feq (by decide : ¬ ((1 : Int32) = (0 : Int32)))).1) ?_
     refine XS.iconst X325.here hx rfl (hb hby at_174) ?_
     refine XS.goto X325.here hx rfl (pc0 := 175) (pc' := 179) rfl (hb hby at_175) (by decide) (by decide) ?_
     refine XS.iload X325.here hx rfl (hb hby at_179) rfl ?_
     refine XS.ifYes X325.here hx rfl (pc0 := 181) (pc' := 188) rfl (hb hby at_181) rfl ((if0 _ _).trans (teq (by decide : ((0 : Int32) = (0 : Int32)))).1) (by decide) (by decide) ?_
     refine XS.iconst X325.here hx rfl (hb hby at_188) ?_
     refine XS.iadd X325.here hx rfl (hb hby at_189) rfl ?_
     refine XS.istore X325.here hx rfl (hb hby at_190) rfl (l' := #[.val (.int p1), .val (.int p2), .val (.int p3), .val (.ref b101), .val (.ref b195), .val (.int (1 : Int32)), .val (.int (1 : Int32)), .val (.int (0 : Int32)), .val (.int (1 : Int32)), .val (.int (1 : Int32)), .unset, .unset]) rfl ?_
     refine XS.iload X325.here hx rfl (hb hby at_192) rfl ?_
     refine XS.ifNo X325.here hx rfl (hb hby at_194) rfl ((if0 _ _).trans (feq (by decide : ¬ ((1 : Int32) = (0 : Int32)))).1) ?_
     refine XS.iload X325.here hx rfl (hb hby at_197) rfl ?_
     refine XS.ifYes X325.here hx rfl (pc0 := 199) (pc' := 229) rfl (hb hby at_199) rfl ((if0 _ _).trans (teq (by decide : ((0 : Int32) = (0 : Int32)))).1) (by decide) (by decide) ?_
     refine XS.iload X325.here hx rfl (hb hby at_229) rfl ?_
     refine XS.ifNo X325.here hx rfl (hb hby at_231) rfl ((if0 _ _).trans (feq (by decide : ¬ ((1 : Int32) = (0 : Int32)))).1) ?_
     refine XS.iconst X325.here hx rfl (hb hby at_234) ?_
     refine XS.istore X325.here hx rfl (hb hby at_235) rfl (l' := #[.val (.int p1), .val (.int p2), .val (.int p3), .val (.ref b101), .val (.ref b195), .val (.int (1 : Int32)), .val (.int (1 : Int32)), .val (.int (0 : Int32)), .val (.int (1 : Int32)), .val (.int (1 : Int32)), .val (.int (0 : Int32)), .unset]) rfl ?_
     refine XS.iconst X325.here hx rfl (hb hby at_237) ?_
     refine XS.istore X325.here hx rfl (hb hby at_238) rfl (l' := #[.val (.int p1), .val (.int p2), .val (.int p3), .val (.ref b101), .val (.ref b195), .val (.int (1 : Int32)), .val (.int (1 : Int32)), .val (.int (0 : Int32)), .val (.int (1 : Int32)), .val (.int (1 : Int32)), .val (.int (0 : Int32)), .val (.int (-1 : Int32))]) rfl ?_
     refine XS.goto X325.here hx rfl (pc0 := 240) (pc' := 249) rfl (hb hby at_240) (by decide) (by decide) ?_
     refine XS.aload X325.here hx rfl (hb hby at_249) rfl rfl ?_
     exact k_)
    obtain ⟨cq399, kq399, q399a, q399b, q399c⟩ := isOf hZ152 rfl q325_F0
    obtain ⟨_, _, ⟨T399, L399, k399, n399⟩, -, X399, ⟨Lc399, hQ399, l399, y399, z399⟩, st399⟩ := X325.virtualBack hx (y := (⟨"com/example/arcward/arcward/solver/Domains", "resizedCount", "()I"⟩ : MethodName)) (z := (⟨"com/example/arcward/arcward/solver/Domains", "resizedCount", "()I"⟩ : MethodName)) hown152 (mvT hZ152 (own_w hw 308 rfl)) (mvT hZ152 (own_w hw 309 rfl)) (notFace_of_selects (args := #[]) (mvT hZ152 (own_w hw 311 rfl))) (mvT hZ152 (own_w hw 311 rfl)) (mvT hZ152 (own_w hw 310 rfl)) (by decide) (backOf (W := 0) (rm38 l Z a0 hw [] b195 (own_rc p2) T325.heap n0 (Nat.le_trans Z0 K332.1) q325_F7) hZ152 (own_w hw 312 rfl) (own_w hw 91 rfl) (by decide) (by decide)) q399a q399c (g := (mkF m 251 #[.val (.int p1), .val (.int p2), .val (.int p3), .val (.ref b101), .val (.ref b195), .val (.int (1 : Int32)), .val (.int (1 : Int32)), .val (.int (0 : Int32)), .val (.int (1 : Int32)), .val (.int (1 : Int32)), .val (.int (0 : Int32)), .val (.int (-1 : Int32))] [(.ref b195)])) rfl (by rw [hml]; rfl) (Steps.refl _) (argsL := []) (rest := []) (lenOf pd13 rfl) rfl (by show 2 * 0 + _ ≤ _; exact Nat.le_of_eq rfl) (hb hby at_251) (fun _ _ => ⟨rfl, rfl, (by decide : 26 + 0 ≤ _), (by decide : 170 + 0 ≤ _)⟩)
    dsimp only [Pt.U, Pt.locs, Pt.cells, Pt.slots] at X399 l399 y399 z399 st399 hQ399
    subst l399 y399 z399
    obtain ⟨rfl, N399q, q399_hh⟩ := hQ399
    have N399 := Fr.app N325 N399q
    have p400 : Go p.tables e below _ (T399.setTop (mkF m 256 #[.val (.int p1), .val (.int p2), .val (.int p3), .val (.ref b101), .val (.ref b195), .val (.int (1 : Int32)), .val (.int (1 : Int32)), .val (.int (0 : Int32)), .val (.int (1 : Int32)), .val (.int (1 : Int32)), .val (.int (0 : Int32)), .val (.int (-1 : Int32))] [(.int (1 : Int32)), (.int (own_rc p2))])) := fun t_ k_ => (gcT p398 st399) t_ (by
     refine XS.iload X399.here hx rfl (hb hby at_254) rfl ?_
     exact k_)
    have c401 : ((own_rc p2) = (1 : Int32)) := by simp [own_rc, c334, c382, c385]
    have p402 : Go p.tables e below _ (T399.setTop (mkF m 270 #[.val (.int p1), .val (.int p2), .val (.int p3), .val (.ref b101), .val (.ref b195), .val (.int (1 : Int32)), .val (.int (1 : Int32)), .val (.int (0 : Int32)), .val (.int (1 : Int32)), .val (.int (1 : Int32)), .val (.int (0 : Int32)), .val (.int (-1 : Int32))] [(.int (0 : Int32)), (.ref b195)])) := fun t_ k_ => p400 t_ (by
     refine XS.icmpYes X399.here hx rfl (pc0 := 256) (pc' := 261) rfl (hb hby at_256) rfl (teq c401).1 (by decide) (by decide) ?_
     refine XS.iload X399.here hx rfl (hb hby at_261) rfl ?_
     refine XS.iconst X399.here hx rfl (hb hby at_263) ?_
     refine XS.icmpNo X399.here hx rfl (hb hby at_264) rfl (flt (by decide : ¬ ((1 : Int32) < (1 : Int32)))).1 ?_
     refine XS.aload X399.here hx rfl (hb hby at_267) rfl rfl ?_
     refine XS.iconst X399.here hx rfl (hb hby at_269) ?_
     exact k_)
    obtain ⟨cq403, kq403, q403a, q403b, q403c⟩ := isOf hZ152 q399_hh q325_F0
    obtain ⟨_, _, ⟨T403, L403, k403, n403⟩, -, X403, ⟨Lc403, hQ403, l403, y403, z403⟩, st403⟩ := X399.virtualBack hx (y := (⟨"com/example/arcward/arcward/solver/Domains", "resized", "(I)I"⟩ : MethodName)) (z := (⟨"com/example/arcward/arcward/solver/Domains", "resized", "(I)I"⟩ : MethodName)) hown152 (mvT hZ152 (own_w hw 330 rfl)) (mvT hZ152 (own_w hw 331 rfl)) (notFace_of_selects (args := #[]) (mvT hZ152 (own_w hw 333 rfl))) (mvT hZ152 (own_w hw 333 rfl)) (mvT hZ152 (own_w hw 332 rfl)) (by decide) (backOf (W := 0) (rm42_0 l Z a0 hw [] b195 x275 x283 (own_ra p2 (own_ra p1 (0 : Int32))) (own_rb p2 (own_rb p1 (0 : Int32))) T325.heap n0 (Nat.le_trans Z0 K332.1) q325_F5 q325_F12) hZ152 (own_w hw 334 rfl) (own_w hw 91 rfl) (by decide) (by decide)) q403a q403c (g := (mkF m 270 #[.val (.int p1), .val (.int p2), .val (.int p3), .val (.ref b101), .val (.ref b195), .val (.int (1 : Int32)), .val (.int (1 : Int32)), .val (.int (0 : Int32)), .val (.int (1 : Int32)), .val (.int (1 : Int32)), .val (.int (0 : Int32)), .val (.int (-1 : Int32))] [(.int (0 : Int32)), (.ref b195)])) rfl (by rw [hml]; rfl) (Steps.refl _) (argsL := [(.int (0 : Int32))]) (rest := []) (lenOf pd17 rfl) rfl (by show 2 * 0 + _ ≤ _; exact Nat.le_of_eq rfl) (hb hby at_270) (fun _ _ => ⟨rfl, q399_hh, (by decide : 26 + 0 ≤ _), (by decide : 170 + 0 ≤ _)⟩)
    dsimp only [Pt.U, Pt.locs, Pt.cells, Pt.slots] at X403 l403 y403 z403 st403 hQ403
    subst l403 y403 z403
    obtain ⟨rfl, N403q, q403_hh⟩ := hQ403
    have N403 := Fr.app N399 N403q
    have p404 : Go p.tables e below _ (T403.setTop (mkF m 275 #[.val (.int p1), .val (.int p2), .val (.int p3), .val (.ref b101), .val (.ref b195), .val (.int (1 : Int32)), .val (.int (1 : Int32)), .val (.int (0 : Int32)), .val (.int (1 : Int32)), .val (.int (1 : Int32)), .val (.int (0 : Int32)), .val (.int (-1 : Int32))] [(.int (0 : Int32)), (.int (own_ra p2 (own_ra p1 (0 : Int32))))])) := fun t_ k_ => (gcT p402 st403) t_ (by
     refine XS.iload X403.here hx rfl (hb hby at_273) rfl ?_
     exact k_)
    have c405 : ((own_ra p2 (own_ra p1 (0 : Int32))) = (0 : Int32)) := by simp [own_ra, c334, c382, c385]
    have p406 : Go p.tables e below _ (T403.setTop (mkF m 301 #[.val (.int p1), .val (.int p2), .val (.int p3), .val (.ref b101), .val (.ref b195), .val (.int (1 : Int32)), .val (.int (1 : Int32)), .val (.int (0 : Int32)), .val (.int (1 : Int32)), .val (.int (1 : Int32)), .val (.int (0 : Int32)), .val (.int (-1 : Int32))] [(.int (1 : Int32))])) := fun t_ k_ => p404 t_ (by
     refine XS.icmpYes X403.here hx rfl (pc0 := 275) (pc' := 280) rfl (hb hby at_275) rfl (teq c405).1 (by decide) (by decide) ?_
     refine XS.iload X403.here hx rfl (hb hby at_280) rfl ?_
     refine XS.iconst X403.here hx rfl (hb hby at_282) ?_
     refine XS.icmpYes X403.here hx rfl (pc0 := 283) (pc' := 299) rfl (hb hby at_283) rfl (feq (by decide : ¬ ((1 : Int32) = (2 : Int32)))).2 (by decide) (by decide) ?_
     refine XS.iload X403.here hx rfl (hb hby at_299) rfl ?_
     exact k_)
    have f407 := (Nat.le_trans kb307 q325_K.1)
    obtain ⟨fs, hr, hrun, hended, hRW⟩ := X403.leaveW (s := s) S152 (by rw [q403_hh]; exact f407) (v := some (.int (1 : Int32))) (fun h => by rw [Bd.returns] at h; cases h)
    refine ⟨_, _, p406 _ (retN X403 hx (t := .boolean) Bd.returns (by simp) (hb hby at_301) hr), hrun, hended, _, _, rfl, ?_, hRW.1, hRW.2.1, hRW.2.2.1, hRW.2.2.2.mono (by decide) (by decide)⟩
    show Q0 Z p1 p2 p3 de kde el ea kea em mr h0 n0 _ T403.heap _
    rw [q403_hh]
    exact ⟨rfl, N403⟩
  ·have p408 : Go p.tables e below _ (T325.setTop (mkF m 149 #[.val (.int p1), .val (.int p2), .val (.int p3), .val (.ref b101), .val (.ref b195), .val (.int (1 : Int32)), .val (.int (1 : Int32)), .unset, .unset, .unset, .unset, .unset] [])) := fun t_ k_ => p381 t_ (by
    refine XS.ifNo X325.here hx rfl (hb hby at_146) rfl ((if0 _ _).trans (feq c382).1) ?_
    exact k_)
   have p409 : Go p.tables e below _ (T325.setTop (mkF m 159 #[.val (.int p1), .val (.int p2), .val (.int p3), .val (.ref b101), .val (.ref b195), .val (.int (1 : Int32)), .val (.int (1 : Int32)), .val (.int (1 : Int32)), .unset, .unset, .unset, .unset] [(.int (p2 &&& (4 : Int32)))])) := fun t_ k_ => p408 t_ (by
    refine XS.iconst X325.here hx rfl (hb hby at_149) ?_
    refine XS.goto X325.here hx rfl (pc0 := 150) (pc' := 154) rfl (hb hby at_150) (by decide) (by decide) ?_
    refine XS.istore X325.here hx rfl (hb hby at_154) rfl (l' := #[.val (.int p1), .val (.int p2), .val (.int p3), .val (.ref b101), .val (.ref b195), .val (.int (1 : Int32)), .val (.int (1 : Int32)), .val (.int (1 : Int32)), .unset, .unset, .unset, .unset]) rfl ?_
    refine XS.iloadN X325.here hx rfl (hb hby at_156) rfl ?_
    refine XS.iconst X325.here hx rfl (hb hby at_157) ?_
    refine XS.iand X325.here hx rfl (hb hby at_158) rfl ?_
    exact k_)
   by_cases c410 : (p2 &&& (4 : Int32)) = (0 : Int32)
   ·have p411 : Go p.tables e below _ (T325.setTop (mkF m 166 #[.val (.int p1), .val (.int p2), .val (.int p3), .val (.ref b101), .val (.ref b195), .val (.int (1 : Int32)), .val (.int (1 : Int32)), .val (.int (1 : Int32)), .unset, .unset, .unset, .unset] [])) := fun t_ k_ => p409 t_ (by
     refine XS.ifYes X325.here hx rfl (pc0 := 159) (pc' := 166) rfl (hb hby at_159) rfl ((if0 _ _).trans (teq c410).1) (by decide) (by decide) ?_
     exact k_)
    have p412 : Go p.tables e below _ (T325.setTop (mkF m 251 #[.val (.int p1), .val (.int p2), .val (.int p3), .val (.ref b101), .val (.ref b195), .val (.int (1 : Int32)), .val (.int (1 : Int32)), .val (.int (1 : Int32)), .val (.int (0 : Int32)), .val (.int (2 : Int32)), .val (.int (0 : Int32)), .val (.int (1 : Int32))] [(.ref b195)])) := fun t_ k_ => p411 t_ (by
     refine XS.iconst X325.here hx rfl (hb hby at_166) ?_
     refine XS.istore X325.here hx rfl (hb hby at_167) rfl (l' := #[.val (.int p1), .val (.int p2), .val (.int p3), .val (.ref b101), .val (.ref b195), .val (.int (1 : Int32)), .val (.int (1 : Int32)), .val (.int (1 : Int32)), .val (.int (0 : Int32)), .unset, .unset, .unset]) rfl ?_
     refine XS.iload X325.here hx rfl (hb hby at_169) rfl ?_
     refine XS.ifNo X325.here hx rfl (hb hby at_171) rfl ((if0 _ _).trans (feq (by decide : ¬ ((1 : Int32) = (0 : Int32)))).1) ?_
     refine XS.iconst X325.here hx rfl (hb hby at_174) ?_
     refine XS.goto X325.here hx rfl (pc0 := 175) (pc' := 179) rfl (hb hby at_175) (by decide) (by decide) ?_
     refine XS.iload X325.here hx rfl (hb hby at_179) rfl ?_
     refine XS.ifNo X325.here hx rfl (hb hby at_181) rfl ((if0 _ _).trans (feq (by decide : ¬ ((1 : Int32) = (0 : Int32)))).1) ?_
     refine XS.iconst X325.here hx rfl (hb hby at_184) ?_
     refine XS.goto X325.here hx rfl (pc0 := 185) (pc' := 189) rfl (hb hby at_185) (by decide) (by decide) ?_
     refine XS.iadd X325.here hx rfl (hb hby at_189) rfl ?_
     refine XS.istore X325.here hx rfl (hb hby at_190) rfl (l' := #[.val (.int p1), .val (.int p2), .val (.int p3), .val (.ref b101), .val (.ref b195), .val (.int (1 : Int32)), .val (.int (1 : Int32)), .val (.int (1 : Int32)), .val (.int (0 : Int32)), .val (.int (2 : Int32)), .unset, .unset]) rfl ?_
     refine XS.iload X325.here hx rfl (hb hby at_192) rfl ?_
     refine XS.ifNo X325.here hx rfl (hb hby at_194) rfl ((if0 _ _).trans (feq (by decide : ¬ ((1 : Int32) = (0 : Int32)))).1) ?_
     refine XS.iload X325.here hx rfl (hb hby at_197) rfl ?_
     refine XS.ifNo X325.here hx rfl (hb hby at_199) rfl ((if0 _ _).trans (feq (by decide : ¬ ((1 : Int32) = (0 : Int32)))).1) ?_
     refine XS.iload X325.here hx rfl (hb hby at_202) rfl ?_
     refine XS.ifYes X325.here hx rfl (pc0 := 204) (pc' := 211) rfl (hb hby at_204) rfl ((if0 _ _).trans (teq (by decide : ((0 : Int32) = (0 : Int32)))).1) (by decide) (by decide) ?_
     refine XS.iconst X325.here hx rfl (hb hby at_211) ?_
     refine XS.istore X325.here hx rfl (hb hby at_212) rfl (l' := #[.val (.int p1), .val (.int p2), .val (.int p3), .val (.ref b101), .val (.ref b195), .val (.int (1 : Int32)), .val (.int (1 : Int32)), .val (.int (1 : Int32)), .val (.int (0 : Int32)), .val (.int (2 : Int32)), .val (.int (0 : Int32)), .unset]) rfl ?_
     refine XS.iload X325.here hx rfl (hb hby at_214) rfl ?_
     refine XS.ifYes X325.here hx rfl (pc0 := 216) (pc' := 223) rfl (hb hby at_216) rfl ((if0 _ _).trans (teq (by decide : ((0 : Int32) = (0 : Int32)))).1) (by decide) (by decide) ?_
     refine XS.iconst X325.here hx rfl (hb hby at_223) ?_
     refine XS.istore X325.here hx rfl (hb hby at_224) rfl (l' := #[.val (.int p1), .val (.int p2), .val (.int p3), .val (.ref b101), .val (.ref b195), .val (.int (1 : Int32)), .val (.int (1 : Int32)), .val (.int (1 : Int32)), .val (.int (0 : Int32)), .val (.int (2 : Int32)), .val (.int (0 : Int32)), .val (.int (1 : Int32))]) rfl ?_
     refine XS.goto X325.here hx rfl (pc0 := 226) (pc' := 249) rfl (hb hby at_226) (by decide) (by decide) ?_
     refine XS.aload X325.here hx rfl (hb hby at_249) rfl rfl ?_
     exact k_)
    obtain ⟨cq413, kq413, q413a, q413b, q413c⟩ := isOf hZ152 rfl q325_F0
    obtain ⟨_, _, ⟨T413, L413, k413, n413⟩, -, X413, ⟨Lc413, hQ413, l413, y413, z413⟩, st413⟩ := X325.virtualBack hx (y := (⟨"com/example/arcward/arcward/solver/Domains", "resizedCount", "()I"⟩ : MethodName)) (z := (⟨"com/example/arcward/arcward/solver/Domains", "resizedCount", "()I"⟩ : MethodName)) hown152 (mvT hZ152 (own_w hw 308 rfl)) (mvT hZ152 (own_w hw 309 rfl)) (notFace_of_selects (args := #[]) (mvT hZ152 (own_w hw 311 rfl))) (mvT hZ152 (own_w hw 311 rfl)) (mvT hZ152 (own_w hw 310 rfl)) (by decide) (backOf (W := 0) (rm38 l Z a0 hw [] b195 (own_rc p2) T325.heap n0 (Nat.le_trans Z0 K332.1) q325_F7) hZ152 (own_w hw 312 rfl) (own_w hw 91 rfl) (by decide) (by decide)) q413a q413c (g := (mkF m 251 #[.val (.int p1), .val (.int p2), .val (.int p3), .val (.ref b101), .val (.ref b195), .val (.int (1 : Int32)), .val (.int (1 : Int32)), .val (.int (1 : Int32)), .val (.int (0 : Int32)), .val (.int (2 : Int32)), .val (.int (0 : Int32)), .val (.int (1 : Int32))] [(.ref b195)])) rfl (by rw [hml]; rfl) (Steps.refl _) (argsL := []) (rest := []) (lenOf pd13 rfl) rfl (by show 2 * 0 + _ ≤ _; exact Nat.le_of_eq rfl) (hb hby at_251) (fun _ _ => ⟨rfl, rfl, (by decide : 26 + 0 ≤ _), (by decide : 170 + 0 ≤ _)⟩)
    dsimp only [Pt.U, Pt.locs, Pt.cells, Pt.slots] at X413 l413 y413 z413 st413 hQ413
    subst l413 y413 z413
    obtain ⟨rfl, N413q, q413_hh⟩ := hQ413
    have N413 := Fr.app N325 N413q
    have p414 : Go p.tables e below _ (T413.setTop (mkF m 256 #[.val (.int p1), .val (.int p2), .val (.int p3), .val (.ref b101), .val (.ref b195), .val (.int (1 : Int32)), .val (.int (1 : Int32)), .val (.int (1 : Int32)), .val (.int (0 : Int32)), .val (.int (2 : Int32)), .val (.int (0 : Int32)), .val (.int (1 : Int32))] [(.int (2 : Int32)), (.int (own_rc p2))])) := fun t_ k_ => (gcT p412 st413) t_ (by
     refine XS.iload X413.here hx rfl (hb hby at_254) rfl ?_
     exact k_)
    have c415 : ((own_rc p2) = (2 : Int32)) := by simp [own_rc, c334, c382, c410]
    have p416 : Go p.tables e below _ (T413.setTop (mkF m 270 #[.val (.int p1), .val (.int p2), .val (.int p3), .val (.ref b101), .val (.ref b195), .val (.int (1 : Int32)), .val (.int (1 : Int32)), .val (.int (1 : Int32)), .val (.int (0 : Int32)), .val (.int (2 : Int32)), .val (.int (0 : Int32)), .val (.int (1 : Int32))] [(.int (0 : Int32)), (.ref b195)])) := fun t_ k_ => p414 t_ (by
     refine XS.icmpYes X413.here hx rfl (pc0 := 256) (pc' := 261) rfl (hb hby at_256) rfl (teq c415).1 (by decide) (by decide) ?_
     refine XS.iload X413.here hx rfl (hb hby at_261) rfl ?_
     refine XS.iconst X413.here hx rfl (hb hby at_263) ?_
     refine XS.icmpNo X413.here hx rfl (hb hby at_264) rfl (flt (by decide : ¬ ((2 : Int32) < (1 : Int32)))).1 ?_
     refine XS.aload X413.here hx rfl (hb hby at_267) rfl rfl ?_
     refine XS.iconst X413.here hx rfl (hb hby at_269) ?_
     exact k_)
    obtain ⟨cq417, kq417, q417a, q417b, q417c⟩ := isOf hZ152 q413_hh q325_F0
    obtain ⟨_, _, ⟨T417, L417, k417, n417⟩, -, X417, ⟨Lc417, hQ417, l417, y417, z417⟩, st417⟩ := X413.virtualBack hx (y := (⟨"com/example/arcward/arcward/solver/Domains", "resized", "(I)I"⟩ : MethodName)) (z := (⟨"com/example/arcward/arcward/solver/Domains", "resized", "(I)I"⟩ : MethodName)) hown152 (mvT hZ152 (own_w hw 330 rfl)) (mvT hZ152 (own_w hw 331 rfl)) (notFace_of_selects (args := #[]) (mvT hZ152 (own_w hw 333 rfl))) (mvT hZ152 (own_w hw 333 rfl)) (mvT hZ152 (own_w hw 332 rfl)) (by decide) (backOf (W := 0) (rm42_0 l Z a0 hw [] b195 x275 x283 (own_ra p2 (own_ra p1 (0 : Int32))) (own_rb p2 (own_rb p1 (0 : Int32))) T325.heap n0 (Nat.le_trans Z0 K332.1) q325_F5 q325_F12) hZ152 (own_w hw 334 rfl) (own_w hw 91 rfl) (by decide) (by decide)) q417a q417c (g := (mkF m 270 #[.val (.int p1), .val (.int p2), .val (.int p3), .val (.ref b101), .val (.ref b195), .val (.int (1 : Int32)), .val (.int (1 : Int32)), .val (.int (1 : Int32)), .val (.int (0 : Int32)), .val (.int (2 : Int32)), .val (.int (0 : Int32)), .val (.int (1 : Int32))] [(.int (0 : Int32)), (.ref b195)])) rfl (by rw [hml]; rfl) (Steps.refl _) (argsL := [(.int (0 : Int32))]) (rest := []) (lenOf pd17 rfl) rfl (by show 2 * 0 + _ ≤ _; exact Nat.le_of_eq rfl) (hb hby at_270) (fun _ _ => ⟨rfl, q413_hh, (by decide : 26 + 0 ≤ _), (by decide : 170 + 0 ≤ _)⟩)
    dsimp only [Pt.U, Pt.locs, Pt.cells, Pt.slots] at X417 l417 y417 z417 st417 hQ417
    subst l417 y417 z417
    obtain ⟨rfl, N417q, q417_hh⟩ := hQ417
    have N417 := Fr.app N413 N417q
    have p418 : Go p.tables e below _ (T417.setTop (mkF m 275 #[.val (.int p1), .val (.int p2), .val (.int p3), .val (.ref b101), .val (.ref b195), .val (.int (1 : Int32)), .val (.int (1 : Int32)), .val (.int (1 : Int32)), .val (.int (0 : Int32)), .val (.int (2 : Int32)), .val (.int (0 : Int32)), .val (.int (1 : Int32))] [(.int (0 : Int32)), (.int (own_ra p2 (own_ra p1 (0 : Int32))))])) := fun t_ k_ => (gcT p416 st417) t_ (by
     refine XS.iload X417.here hx rfl (hb hby at_273) rfl ?_
     exact k_)
    have c419 : ((own_ra p2 (own_ra p1 (0 : Int32))) = (0 : Int32)) := by simp [own_ra, c334, c382, c410]
    have p420 : Go p.tables e below _ (T417.setTop (mkF m 289 #[.val (.int p1), .val (.int p2), .val (.int p3), .val (.ref b101), .val (.ref b195), .val (.int (1 : Int32)), .val (.int (1 : Int32)), .val (.int (1 : Int32)), .val (.int (0 : Int32)), .val (.int (2 : Int32)), .val (.int (0 : Int32)), .val (.int (1 : Int32))] [(.int (1 : Int32)), (.ref b195)])) := fun t_ k_ => p418 t_ (by
     refine XS.icmpYes X417.here hx rfl (pc0 := 275) (pc' := 280) rfl (hb hby at_275) rfl (teq c419).1 (by decide) (by decide) ?_
     refine XS.iload X417.here hx rfl (hb hby at_280) rfl ?_
     refine XS.iconst X417.here hx rfl (hb hby at_282) ?_
     refine XS.icmpNo X417.here hx rfl (hb hby at_283) rfl (teq (by decide : ((2 : Int32) = (2 : Int32)))).2 ?_
     refine XS.aload X417.here hx rfl (hb hby at_286) rfl rfl ?_
     refine XS.iconst X417.here hx rfl (hb hby at_288) ?_
     exact k_)
    obtain ⟨cq421, kq421, q421a, q421b, q421c⟩ := isOf hZ152 q417_hh q325_F0
    obtain ⟨_, _, ⟨T421, L421, k421, n421⟩, -, X421, ⟨Lc421, hQ421, l421, y421, z421⟩, st421⟩ := X417.virtualBack hx (y := (⟨"com/example/arcward/arcward/solver/Domains", "resized", "(I)I"⟩ : MethodName)) (z := (⟨"com/example/arcward/arcward/solver/Domains", "resized", "(I)I"⟩ : MethodName)) hown152 (mvT hZ152 (own_w hw 330 rfl)) (mvT hZ152 (own_w hw 331 rfl)) (notFace_of_selects (args := #[]) (mvT hZ152 (own_w hw 333 rfl))) (mvT hZ152 (own_w hw 333 rfl)) (mvT hZ152 (own_w hw 332 rfl)) (by decide) (backOf (W := 0) (rm42_1 l Z a0 hw [] b195 x275 x283 (own_ra p2 (own_ra p1 (0 : Int32))) (own_rb p2 (own_rb p1 (0 : Int32))) T325.heap n0 (Nat.le_trans Z0 K332.1) q325_F5 q325_F12) hZ152 (own_w hw 334 rfl) (own_w hw 91 rfl) (by decide) (by decide)) q421a q421c (g := (mkF m 289 #[.val (.int p1), .val (.int p2), .val (.int p3), .val (.ref b101), .val (.ref b195), .val (.int (1 : Int32)), .val (.int (1 : Int32)), .val (.int (1 : Int32)), .val (.int (0 : Int32)), .val (.int (2 : Int32)), .val (.int (0 : Int32)), .val (.int (1 : Int32))] [(.int (1 : Int32)), (.ref b195)])) rfl (by rw [hml]; rfl) (Steps.refl _) (argsL := [(.int (1 : Int32))]) (rest := []) (lenOf pd17 rfl) rfl (by show 2 * 0 + _ ≤ _; exact Nat.le_of_eq rfl) (hb hby at_289) (fun _ _ => ⟨rfl, q417_hh, (by decide : 26 + 0 ≤ _), (by decide : 170 + 0 ≤ _)⟩)
    dsimp only [Pt.U, Pt.locs, Pt.cells, Pt.slots] at X421 l421 y421 z421 st421 hQ421
    subst l421 y421 z421
    obtain ⟨rfl, N421q, q421_hh⟩ := hQ421
    have N421 := Fr.app N417 N421q
    have p422 : Go p.tables e below _ (T421.setTop (mkF m 294 #[.val (.int p1), .val (.int p2), .val (.int p3), .val (.ref b101), .val (.ref b195), .val (.int (1 : Int32)), .val (.int (1 : Int32)), .val (.int (1 : Int32)), .val (.int (0 : Int32)), .val (.int (2 : Int32)), .val (.int (0 : Int32)), .val (.int (1 : Int32))] [(.int (1 : Int32)), (.int (own_rb p2 (own_rb p1 (0 : Int32))))])) := fun t_ k_ => (gcT p420 st421) t_ (by
     refine XS.iload X421.here hx rfl (hb hby at_292) rfl ?_
     exact k_)
    have c423 : ((own_rb p2 (own_rb p1 (0 : Int32))) = (1 : Int32)) := by simp [own_rb, c334, c382, c410]
    have p424 : Go p.tables e below _ (T421.setTop (mkF m 301 #[.val (.int p1), .val (.int p2), .val (.int p3), .val (.ref b101), .val (.ref b195), .val (.int (1 : Int32)), .val (.int (1 : Int32)), .val (.int (1 : Int32)), .val (.int (0 : Int32)), .val (.int (2 : Int32)), .val (.int (0 : Int32)), .val (.int (1 : Int32))] [(.int (1 : Int32))])) := fun t_ k_ => p422 t_ (by
     refine XS.icmpYes X421.here hx rfl (pc0 := 294) (pc' := 299) rfl (hb hby at_294) rfl (teq c423).1 (by decide) (by decide) ?_
     refine XS.iload X421.here hx rfl (hb hby at_299) rfl ?_
     exact k_)
    have f425 := (Nat.le_trans kb307 q325_K.1)
    obtain ⟨fs, hr, hrun, hended, hRW⟩ := X421.leaveW (s := s) S152 (by rw [q421_hh]; exact f425) (v := some (.int (1 : Int32))) (fun h => by rw [Bd.returns] at h; cases h)
    refine ⟨_, _, p424 _ (retN X421 hx (t := .boolean) Bd.returns (by simp) (hb hby at_301) hr), hrun, hended, _, _, rfl, ?_, hRW.1, hRW.2.1, hRW.2.2.1, hRW.2.2.2.mono (by decide) (by decide)⟩
    show Q0 Z p1 p2 p3 de kde el ea kea em mr h0 n0 _ T421.heap _
    rw [q421_hh]
    exact ⟨rfl, N421⟩
   ·have p426 : Go p.tables e below _ (T325.setTop (mkF m 162 #[.val (.int p1), .val (.int p2), .val (.int p3), .val (.ref b101), .val (.ref b195), .val (.int (1 : Int32)), .val (.int (1 : Int32)), .val (.int (1 : Int32)), .unset, .unset, .unset, .unset] [])) := fun t_ k_ => p409 t_ (by
     refine XS.ifNo X325.here hx rfl (hb hby at_159) rfl ((if0 _ _).trans (feq c410).1) ?_
     exact k_)
    have p427 : Go p.tables e below _ (T325.setTop (mkF m 251 #[.val (.int p1), .val (.int p2), .val (.int p3), .val (.ref b101), .val (.ref b195), .val (.int (1 : Int32)), .val (.int (1 : Int32)), .val (.int (1 : Int32)), .val (.int (1 : Int32)), .val (.int (2 : Int32)), .val (.int (1 : Int32)), .val (.int (0 : Int32))] [(.ref b195)])) := fun t_ k_ => p426 t_ (by
     refine XS.iconst X325.here hx rfl (hb hby at_162) ?_
     refine XS.goto X325.here hx rfl (pc0 := 163) (pc' := 167) rfl (hb hby at_163) (by decide) (by decide) ?_
     refine XS.istore X325.here hx rfl (hb hby at_167) rfl (l' := #[.val (.int p1), .val (.int p2), .val (.int p3), .val (.ref b101), .val (.ref b195), .val (.int (1 : Int32)), .val (.int (1 : Int32)), .val (.int (1 : Int32)), .val (.int (1 : Int32)), .unset, .unset, .unset]) rfl ?_
     refine XS.iload X325.here hx rfl (hb hby at_169) rfl ?_
     refine XS.ifNo X325.here hx rfl (hb hby at_171) rfl ((if0 _ _).trans (feq (by decide : ¬ ((1 : Int32) = (0 : Int32)))).1) ?_
     refine XS.iconst X325.here hx rfl (hb hby at_174) ?_
     refine XS.goto X325.here hx rfl (pc0 := 175) (pc' := 179) rfl (hb hby at_175) (by decide) (by decide) ?_
     refine XS.iload X325.here hx rfl (hb hby at_179) rfl ?_
     refine XS.ifNo X325.here hx rfl (hb hby at_181) rfl ((if0 _ _).trans (feq (by decide : ¬ ((1 : Int32) = (0 : Int32)))).1) ?_
     refine XS.iconst X325.here hx rfl (hb hby at_184) ?_
     refine XS.goto X325.here hx rfl (pc0 := 185) (pc' := 189) rfl (hb hby at_185) (by decide) (by decide) ?_
     refine XS.iadd X325.here hx rfl (hb hby at_189) rfl ?_
     refine XS.istore X325.here hx rfl (hb hby at_190) rfl (l' := #[.val (.int p1), .val (.int p2), .val (.int p3), .val (.ref b101), .val (.ref b195), .val (.int (1 : Int32)), .val (.int (1 : Int32)), .val (.int (1 : Int32)), .val (.int (1 : Int32)), .val (.int (2 : Int32)), .unset, .unset]) rfl ?_
     refine XS.iload X325.here hx rfl (hb hby at_192) rfl ?_
     refine XS.ifNo X325.here hx rfl (hb hby at_194) rfl ((if0 _ _).trans (feq (by decide : ¬ ((1 : Int32) = (0 : Int32)))).1) ?_
     refine XS.iload X325.here hx rfl (hb hby at_197) rfl ?_
     refine XS.ifNo X325.here hx rfl (hb hby at_199) rfl ((if0 _ _).trans (feq (by decide : ¬ ((1 : Int32) = (0 : Int32)))).1) ?_
     refine XS.iload X325.here hx rfl (hb hby at_202) rfl ?_
     refine XS.ifNo X325.here hx rfl (hb hby at_204) rfl ((if0 _ _).trans (feq (by decide : ¬ ((1 : Int32) = (0 : Int32)))).1) ?_
     refine XS.iconst X325.here hx rfl (hb hby at_207) ?_
     refine XS.goto X325.here hx rfl (pc0 := 208) (pc' := 212) rfl (hb hby at_208) (by decide) (by decide) ?_
     refine XS.istore X325.here hx rfl (hb hby at_212) rfl (l' := #[.val (.int p1), .val (.int p2), .val (.int p3), .val (.ref b101), .val (.ref b195), .val (.int (1 : Int32)), .val (.int (1 : Int32)), .val (.int (1 : Int32)), .val (.int (1 : Int32)), .val (.int (2 : Int32)), .val (.int (1 : Int32)), .unset]) rfl ?_
     refine XS.iload X325.here hx rfl (hb hby at_214) rfl ?_
     refine XS.ifNo X325.here hx rfl (hb hby at_216) rfl ((if0 _ _).trans (feq (by decide : ¬ ((1 : Int32) = (0 : Int32)))).1) ?_
     refine XS.iconst X325.here hx rfl (hb hby at_219) ?_
     refine XS.goto X325.here hx rfl (pc0 := 220) (pc' := 224) rfl (hb hby at_220) (by decide) (by decide) ?_
     refine XS.istore X325.here hx rfl (hb hby at_224) rfl (l' := #[.val (.int p1), .val (.int p2), .val (.int p3), .val (.ref b101), .val (.ref b195), .val (.int (1 : Int32)), .val (.int (1 : Int32)), .val (.int (1 : Int32)), .val (.int (1 : Int32)), .val (.int (2 : Int32)), .val (.int (1 : Int32)), .val (.int (0 : Int32))]) rfl ?_
     refine XS.goto X325.here hx rfl (pc0 := 226) (pc' := 249) rfl (hb hby at_226) (by decide) (by decide) ?_
     refine XS.aload X325.here hx rfl (hb hby at_249) rfl rfl ?_
     exact k_)
    obtain ⟨cq428, kq428, q428a, q428b, q428c⟩ := isOf hZ152 rfl q325_F0
    obtain ⟨_, _, ⟨T428, L428, k428, n428⟩, -, X428, ⟨Lc428, hQ428, l428, y428, z428⟩, st428⟩ := X325.virtualBack hx (y := (⟨"com/example/arcward/arcward/solver/Domains", "resizedCount", "()I"⟩ : MethodName)) (z := (⟨"com/example/arcward/arcward/solver/Domains", "resizedCount", "()I"⟩ : MethodName)) hown152 (mvT hZ152 (own_w hw 308 rfl)) (mvT hZ152 (own_w hw 309 rfl)) (notFace_of_selects (args := #[]) (mvT hZ152 (own_w hw 311 rfl))) (mvT hZ152 (own_w hw 311 rfl)) (mvT hZ152 (own_w hw 310 rfl)) (by decide) (backOf (W := 0) (rm38 l Z a0 hw [] b195 (own_rc p2) T325.heap n0 (Nat.le_trans Z0 K332.1) q325_F7) hZ152 (own_w hw 312 rfl) (own_w hw 91 rfl) (by decide) (by decide)) q428a q428c (g := (mkF m 251 #[.val (.int p1), .val (.int p2), .val (.int p3), .val (.ref b101), .val (.ref b195), .val (.int (1 : Int32)), .val (.int (1 : Int32)), .val (.int (1 : Int32)), .val (.int (1 : Int32)), .val (.int (2 : Int32)), .val (.int (1 : Int32)), .val (.int (0 : Int32))] [(.ref b195)])) rfl (by rw [hml]; rfl) (Steps.refl _) (argsL := []) (rest := []) (lenOf pd13 rfl) rfl (by show 2 * 0 + _ ≤ _; exact Nat.le_of_eq rfl) (hb hby at_251) (fun _ _ => ⟨rfl, rfl, (by decide : 26 + 0 ≤ _), (by decide : 170 + 0 ≤ _)⟩)
    dsimp only [Pt.U, Pt.locs, Pt.cells, Pt.slots] at X428 l428 y428 z428 st428 hQ428
    subst l428 y428 z428
    obtain ⟨rfl, N428q, q428_hh⟩ := hQ428
    have N428 := Fr.app N325 N428q
    have p429 : Go p.tables e below _ (T428.setTop (mkF m 256 #[.val (.int p1), .val (.int p2), .val (.int p3), .val (.ref b101), .val (.ref b195), .val (.int (1 : Int32)), .val (.int (1 : Int32)), .val (.int (1 : Int32)), .val (.int (1 : Int32)), .val (.int (2 : Int32)), .val (.int (1 : Int32)), .val (.int (0 : Int32))] [(.int (2 : Int32)), (.int (own_rc p2))])) := fun t_ k_ => (gcT p427 st428) t_ (by
     refine XS.iload X428.here hx rfl (hb hby at_254) rfl ?_
     exact k_)
    have c430 : ((own_rc p2) = (2 : Int32)) := by simp [own_rc, c334, c382, c410]
    have p431 : Go p.tables e below _ (T428.setTop (mkF m 270 #[.val (.int p1), .val (.int p2), .val (.int p3), .val (.ref b101), .val (.ref b195), .val (.int (1 : Int32)), .val (.int (1 : Int32)), .val (.int (1 : Int32)), .val (.int (1 : Int32)), .val (.int (2 : Int32)), .val (.int (1 : Int32)), .val (.int (0 : Int32))] [(.int (0 : Int32)), (.ref b195)])) := fun t_ k_ => p429 t_ (by
     refine XS.icmpYes X428.here hx rfl (pc0 := 256) (pc' := 261) rfl (hb hby at_256) rfl (teq c430).1 (by decide) (by decide) ?_
     refine XS.iload X428.here hx rfl (hb hby at_261) rfl ?_
     refine XS.iconst X428.here hx rfl (hb hby at_263) ?_
     refine XS.icmpNo X428.here hx rfl (hb hby at_264) rfl (flt (by decide : ¬ ((2 : Int32) < (1 : Int32)))).1 ?_
     refine XS.aload X428.here hx rfl (hb hby at_267) rfl rfl ?_
     refine XS.iconst X428.here hx rfl (hb hby at_269) ?_
     exact k_)
    obtain ⟨cq432, kq432, q432a, q432b, q432c⟩ := isOf hZ152 q428_hh q325_F0
    obtain ⟨_, _, ⟨T432, L432, k432, n432⟩, -, X432, ⟨Lc432, hQ432, l432, y432, z432⟩, st432⟩ := X428.virtualBack hx (y := (⟨"com/example/arcward/arcward/solver/Domains", "resized", "(I)I"⟩ : MethodName)) (z := (⟨"com/example/arcward/arcward/solver/Domains", "resized", "(I)I"⟩ : MethodName)) hown152 (mvT hZ152 (own_w hw 330 rfl)) (mvT hZ152 (own_w hw 331 rfl)) (notFace_of_selects (args := #[]) (mvT hZ152 (own_w hw 333 rfl))) (mvT hZ152 (own_w hw 333 rfl)) (mvT hZ152 (own_w hw 332 rfl)) (by decide) (backOf (W := 0) (rm42_0 l Z a0 hw [] b195 x275 x283 (own_ra p2 (own_ra p1 (0 : Int32))) (own_rb p2 (own_rb p1 (0 : Int32))) T325.heap n0 (Nat.le_trans Z0 K332.1) q325_F5 q325_F12) hZ152 (own_w hw 334 rfl) (own_w hw 91 rfl) (by decide) (by decide)) q432a q432c (g := (mkF m 270 #[.val (.int p1), .val (.int p2), .val (.int p3), .val (.ref b101), .val (.ref b195), .val (.int (1 : Int32)), .val (.int (1 : Int32)), .val (.int (1 : Int32)), .val (.int (1 : Int32)), .val (.int (2 : Int32)), .val (.int (1 : Int32)), .val (.int (0 : Int32))] [(.int (0 : Int32)), (.ref b195)])) rfl (by rw [hml]; rfl) (Steps.refl _) (argsL := [(.int (0 : Int32))]) (rest := []) (lenOf pd17 rfl) rfl (by show 2 * 0 + _ ≤ _; exact Nat.le_of_eq rfl) (hb hby at_270) (fun _ _ => ⟨rfl, q428_hh, (by decide : 26 + 0 ≤ _), (by decide : 170 + 0 ≤ _)⟩)
    dsimp only [Pt.U, Pt.locs, Pt.cells, Pt.slots] at X432 l432 y432 z432 st432 hQ432
    subst l432 y432 z432
    obtain ⟨rfl, N432q, q432_hh⟩ := hQ432
    have N432 := Fr.app N428 N432q
    have p433 : Go p.tables e below _ (T432.setTop (mkF m 275 #[.val (.int p1), .val (.int p2), .val (.int p3), .val (.ref b101), .val (.ref b195), .val (.int (1 : Int32)), .val (.int (1 : Int32)), .val (.int (1 : Int32)), .val (.int (1 : Int32)), .val (.int (2 : Int32)), .val (.int (1 : Int32)), .val (.int (0 : Int32))] [(.int (1 : Int32)), (.int (own_ra p2 (own_ra p1 (0 : Int32))))])) := fun t_ k_ => (gcT p431 st432) t_ (by
     refine XS.iload X432.here hx rfl (hb hby at_273) rfl ?_
     exact k_)
    have c434 : ((own_ra p2 (own_ra p1 (0 : Int32))) = (1 : Int32)) := by simp [own_ra, c334, c382, c410]
    have p435 : Go p.tables e below _ (T432.setTop (mkF m 289 #[.val (.int p1), .val (.int p2), .val (.int p3), .val (.ref b101), .val (.ref b195), .val (.int (1 : Int32)), .val (.int (1 : Int32)), .val (.int (1 : Int32)), .val (.int (1 : Int32)), .val (.int (2 : Int32)), .val (.int (1 : Int32)), .val (.int (0 : Int32))] [(.int (1 : Int32)), (.ref b195)])) := fun t_ k_ => p433 t_ (by
     refine XS.icmpYes X432.here hx rfl (pc0 := 275) (pc' := 280) rfl (hb hby at_275) rfl (teq c434).1 (by decide) (by decide) ?_
     refine XS.iload X432.here hx rfl (hb hby at_280) rfl ?_
     refine XS.iconst X432.here hx rfl (hb hby at_282) ?_
     refine XS.icmpNo X432.here hx rfl (hb hby at_283) rfl (teq (by decide : ((2 : Int32) = (2 : Int32)))).2 ?_
     refine XS.aload X432.here hx rfl (hb hby at_286) rfl rfl ?_
     refine XS.iconst X432.here hx rfl (hb hby at_288) ?_
     exact k_)
    obtain ⟨cq436, kq436, q436a, q436b, q436c⟩ := isOf hZ152 q432_hh q325_F0
    obtain ⟨_, _, ⟨T436, L436, k436, n436⟩, -, X436, ⟨Lc436, hQ436, l436, y436, z436⟩, st436⟩ := X432.virtualBack hx (y := (⟨"com/example/arcward/arcward/solver/Domains", "resized", "(I)I"⟩ : MethodName)) (z := (⟨"com/example/arcward/arcward/solver/Domains", "resized", "(I)I"⟩ : MethodName)) hown152 (mvT hZ152 (own_w hw 330 rfl)) (mvT hZ152 (own_w hw 331 rfl)) (notFace_of_selects (args := #[]) (mvT hZ152 (own_w hw 333 rfl))) (mvT hZ152 (own_w hw 333 rfl)) (mvT hZ152 (own_w hw 332 rfl)) (by decide) (backOf (W := 0) (rm42_1 l Z a0 hw [] b195 x275 x283 (own_ra p2 (own_ra p1 (0 : Int32))) (own_rb p2 (own_rb p1 (0 : Int32))) T325.heap n0 (Nat.le_trans Z0 K332.1) q325_F5 q325_F12) hZ152 (own_w hw 334 rfl) (own_w hw 91 rfl) (by decide) (by decide)) q436a q436c (g := (mkF m 289 #[.val (.int p1), .val (.int p2), .val (.int p3), .val (.ref b101), .val (.ref b195), .val (.int (1 : Int32)), .val (.int (1 : Int32)), .val (.int (1 : Int32)), .val (.int (1 : Int32)), .val (.int (2 : Int32)), .val (.int (1 : Int32)), .val (.int (0 : Int32))] [(.int (1 : Int32)), (.ref b195)])) rfl (by rw [hml]; rfl) (Steps.refl _) (argsL := [(.int (1 : Int32))]) (rest := []) (lenOf pd17 rfl) rfl (by show 2 * 0 + _ ≤ _; exact Nat.le_of_eq rfl) (hb hby at_289) (fun _ _ => ⟨rfl, q432_hh, (by decide : 26 + 0 ≤ _), (by decide : 170 + 0 ≤ _)⟩)
    dsimp only [Pt.U, Pt.locs, Pt.cells, Pt.slots] at X436 l436 y436 z436 st436 hQ436
    subst l436 y436 z436
    obtain ⟨rfl, N436q, q436_hh⟩ := hQ436
    have N436 := Fr.app N432 N436q
    have p437 : Go p.tables e below _ (T436.setTop (mkF m 294 #[.val (.int p1), .val (.int p2), .val (.int p3), .val (.ref b101), .val (.ref b195), .val (.int (1 : Int32)), .val (.int (1 : Int32)), .val (.int (1 : Int32)), .val (.int (1 : Int32)), .val (.int (2 : Int32)), .val (.int (1 : Int32)), .val (.int (0 : Int32))] [(.int (0 : Int32)), (.int (own_rb p2 (own_rb p1 (0 : Int32))))])) := fun t_ k_ => (gcT p435 st436) t_ (by
     refine XS.iload X436.here hx rfl (hb hby at_292) rfl ?_
     exact k_)
    have c438 : ((own_rb p2 (own_rb p1 (0 : Int32))) = (0 : Int32)) := by simp [own_rb, c334, c382, c410]
    have p439 : Go p.tables e below _ (T436.setTop (mkF m 301 #[.val (.int p1), .val (.int p2), .val (.int p3), .val (.ref b101), .val (.ref b195), .val (.int (1 : Int32)), .val (.int (1 : Int32)), .val (.int (1 : Int32)), .val (.int (1 : Int32)), .val (.int (2 : Int32)), .val (.int (1 : Int32)), .val (.int (0 : Int32))] [(.int (1 : Int32))])) := fun t_ k_ => p437 t_ (by
     refine XS.icmpYes X436.here hx rfl (pc0 := 294) (pc' := 299) rfl (hb hby at_294) rfl (teq c438).1 (by decide) (by decide) ?_
     refine XS.iload X436.here hx rfl (hb hby at_299) rfl ?_
     exact k_)
    have f440 := (Nat.le_trans kb307 q325_K.1)
    obtain ⟨fs, hr, hrun, hended, hRW⟩ := X436.leaveW (s := s) S152 (by rw [q436_hh]; exact f440) (v := some (.int (1 : Int32))) (fun h => by rw [Bd.returns] at h; cases h)
    refine ⟨_, _, p439 _ (retN X436 hx (t := .boolean) Bd.returns (by simp) (hb hby at_301) hr), hrun, hended, _, _, rfl, ?_, hRW.1, hRW.2.1, hRW.2.2.1, hRW.2.2.2.mono (by decide) (by decide)⟩
    show Q0 Z p1 p2 p3 de kde el ea kea em mr h0 n0 _ T436.heap _
    rw [q436_hh]
    exact ⟨rfl, N436⟩
set_option maxRecDepth 65536 in
set_option maxHeartbeats 40000000 in
theorem comes_1 {Post : Tables → Env → Array Value → State → Outcome → State → Prop} (hpost : ∀ tb e args s v u, (limb_1_1.after args s (.returned v) u = true ∧ limb_1_2.after args s (.returned v) u = true ∧ True) → ReturnedEndW s (.returned v) u (Jvm.fieldLocs frame_1_writes args s ++ Jvm.arrayLocs frame_1_arrays args s ++ Jvm.staticLocs frame_1_statics s) 56 2432 → Post tb e args s (.returned v) u) :
    ArmFor flags0 classFile x code maxLocals ret World_1 tables_1 room_1 Calls_1 rest_1 Pre_1 Post := by
  intro l hfl _ _ p e ha hc hk s m args below hf hA hF happ hP
  obtain ⟨hcalls, hrest, hpre⟩ := hP
  obtain ⟨-, -, -, hnamed, -, -, -, hat⟩ := (Spec.applies_iff hf).mp happ
  obtain ⟨hg, hn⟩ := and_e (Cond.before_iff.mp (show (Jvm.Cond.and given_1 narrow_1).before args s = true from hpre))
  obtain ⟨ga, gb0⟩ := and_e hg
  obtain ⟨gi0, gb1⟩ := and_e gb0
  obtain ⟨gi1, gb2⟩ := and_e gb1
  have gi2 := gb2
  obtain ⟨w0, w1, w2, rfl⟩ : ∃ w0 w1 w2 : Value, args = #[w0, w1, w2] := by
    have hs : args.size = 3 := by simpa [Cond.value, given_1] using ga
    obtain ⟨L⟩ := args
    match L, hs with
    | [w0, w1, w2], _ => exact ⟨w0, w1, w2, rfl⟩
  have hw := fun d (hd : d ∈ tables_1) => atoms_spec (ws := Jvm.Cond.code x code maxLocals ret :: tables_1) hat d (List.mem_cons_of_mem _ hd)
  have hfit : Fit s := fun {y c} hc i hi => by
    obtain ⟨ha, rfl⟩ := Array.getElem?_eq_some_iff.mp hc
    have q := List.all_eq_true.mp ((Array.all_eq_true_iff_forall_mem.mp hF) _ (Array.getElem_mem ha)) i (List.mem_range.mpr hi)
    simpa [Array.getElem?_eq_getElem hi] using q
  obtain ⟨hsets, hown0⟩ := atoms_of _ (rest_1_c_eq ▸ (show rest_1_c.before _ s = true from hrest))
  have hr0 := Cond.before_iff.mp hown0
  obtain ⟨i0, ei0⟩ := is_v gi0
  obtain rfl : w0 = (.int i0) := Option.some.inj ei0
  obtain ⟨i1, ei1⟩ := is_v gi1
  obtain rfl : w1 = (.int i1) := Option.some.inj ei1
  obtain ⟨i2, ei2⟩ := is_v gi2
  obtain rfl : w2 = (.int i2) := Option.some.inj ei2
  obtain ⟨de, evd⟩ := exa_v (Cond.before_iff.mp (hsets _ (List.mem_of_getElem? (i := 7) rfl)))
  have Hd0 := Sta.start evd (Or.inr ⟨(own_w hw 2 rfl), (hsets _ (List.mem_of_getElem? (i := 2) rfl))⟩)
  have Hd1 := Exa.start evd (Cond.before_iff.mp (hsets _ (List.mem_of_getElem? (i := 7) rfl)))
  obtain ⟨cld, Ad⟩ := Arr.start evd (Cond.before_iff.mp (hsets _ (List.mem_of_getElem? (i := 6) rfl)))
  have Hd2 := arvOf hfit evd Ad (z := (0 : Int32)) (vs := []) (dv := .null) (eqInt (Cond.before_iff.mp (hsets _ (List.mem_of_getElem? (i := 8) rfl)))) (by decide) rfl trivial
  obtain ⟨el, evl⟩ := exa_v (Cond.before_iff.mp (hsets _ (List.mem_of_getElem? (i := 11) rfl)))
  have Hd3 := Sta.start evl (Or.inl (hsets _ (List.mem_of_getElem? (i := 10) rfl)))
  have Hd4 := Exa.start evl (Cond.before_iff.mp (hsets _ (List.mem_of_getElem? (i := 11) rfl)))
  obtain ⟨ea, eva⟩ := exa_v (Cond.before_iff.mp (hsets _ (List.mem_of_getElem? (i := 13) rfl)))
  have Hd5 := Fld.start ((fld_at evl).symm.trans eva)
  obtain ⟨cla, Aa⟩ := Arr.start eva (Cond.before_iff.mp (hsets _ (List.mem_of_getElem? (i := 12) rfl)))
  have Hd6 := arvOf hfit eva Aa (z := (0 : Int32)) (vs := []) (dv := .null) (eqInt (Cond.before_iff.mp (hsets _ (List.mem_of_getElem? (i := 14) rfl)))) (by decide) rfl trivial
  obtain ⟨em, evm⟩ := exa_v (Cond.before_iff.mp (hsets _ (List.mem_of_getElem? (i := 18) rfl)))
  have Hd7 := Sta.start evm (Or.inl (hsets _ (List.mem_of_getElem? (i := 17) rfl)))
  have Hd8 := (Exa.start evm (Cond.before_iff.mp (hsets _ (List.mem_of_getElem? (i := 18) rfl)))).lt
  obtain ⟨cm, km, mr, fm1, fm2, fm3, fm4⟩ := hcalls.1
  have Hd9 : Mir s "[Ljava/lang/Object;" mr := ⟨cm, km, fm1, fm2, fm3, fm4⟩
  obtain ⟨n, o, h1, h2, h3, _, L, rfl, ⟨rfl, N⟩, hq⟩ := rm0 l s _ hw tables_1 i0 i1 i2 de cld.cls el ea cla.cls em mr s.heap s.heap.size (Nat.le_refl _) (Old.start s) ⟨Hd0, Hd1, Hd2, Hd3, Hd4, Hd5, Hd6, Hd7, Hd8, Hd9⟩ p e ha hc hk s m _ below hf ((Spec.applies_iff_loose hf).mp happ).1 ⟨rfl, State.Warmed39.refl s, rfl, IB.start⟩ trivial
  refine ⟨n, _, h1, h2, h3, hpost _ _ _ _ _ _ ⟨Cond.after_iff.mpr rfl, Cond.after_iff.mpr (eq_i res_at (Term.int_eval (1)) rfl), trivial⟩ ⟨hq.1, hq.2.1, hq.2.2.1, (hq.2.2.2.sift fun y hy => Or.inr (N y hy)).mono (by decide) (by decide)⟩⟩
theorem main_1_1 : Claimed_1_1 := comes_1 fun _ _ _ _ _ _ h hF => ⟨h.1, hF⟩
theorem main_1_2 : Claimed_1_2 := comes_1 fun _ _ _ _ _ _ h hF => ⟨h.2.1, hF⟩
end Jvm.Pilot.@@N@@
namespace Jvm.Pilot.@@N@@
open Jvm Jvm.ClassFile Sem Op Lib Jvm.Free Jvm.Stand Jvm.Pilot.@@N@@.Jvm.D
/-! MADE BY PROGRAM (witnessworld.py) out of the Statement's table words and the real class files: 42 classes; the members and pool entries that the words name. The judged class is class 1, her method 1. -/
namespace start1
open Jvm.ClassFile
def u (s : String) : CpInfo := .utf8 (stringToUtf16 s)
/-- a pool by its gaps: so many unusable entries, then the entry; so many at the end -/
def gap : Nat → List CpInfo → List CpInfo
  | 0, r => r
  | n + 1, r => .unusable :: gap n r
def poolList (es : List (Nat × CpInfo)) (last : Nat) : List CpInfo := es.foldr (fun e r => gap e.1 (e.2 :: r)) (gap last [])
def pool (es : List (Nat × CpInfo)) (last : Nat) : Array CpInfo := ⟨poolList es last⟩
def fileOf (pool : Array CpInfo) (this : Nat) (attrs : Array Attribute := #[]) (ms : Array MethodInfo := #[]) (fl : Nat := 33) (sup : Nat := 0) (ifs : Array Nat := #[]) (fds : Array FieldInfo := #[]) : ClassFile where
  minorVersion := 0
  majorVersion := 65
  constantPool := pool
  accessFlags := fl
  thisClass := this
  superClass := sup
  interfaces := ifs
  fields := fds
  methods := ms
  attributes := attrs
def plain (name : String) (sup : Option ClassId) : Class where
  name := name
  kind := .ordinary
  loader := none
  accessFlags := 33
  super := sup
  interfaces := #[]
  cf := none
  fields := #[]
  methods := #[]
  instanceTypes := #[]
  staticTypes := #[]
  resolved := #[]
  callSites := []
  init := .initialized
  statics := none
  mirror := none

def pool0 : Array CpInfo := pool [(5, u "<init>"), (0, u "()V"), (1, .class_ 10), (1, u "java/lang/Object"), (0, u "getClass"), (0, u "()Ljava/lang/Class;"), (83, u "clone"), (0, u "()Ljava/lang/Object;")] 26

def k0c0 : Code := { maxStack := 0, maxLocals := 1, code := object_method_1_code, exceptionTable := #[], attributes := #[] }
def k0m0 : Method := { name := "<init>", desc := "()V", sig := { parameters := [], returnType := none }, accessFlags := 1, code := some k0c0 }
def k0m1 : Method := { name := "getClass", desc := "()Ljava/lang/Class;", sig := { parameters := [], returnType := some (.object "java/lang/Class") }, accessFlags := 273, code := none }
def k0m2 : Method := { name := "clone", desc := "()Ljava/lang/Object;", sig := { parameters := [], returnType := some (.object "java/lang/Object") }, accessFlags := 260, code := none }
/-- java/lang/Object -/
def k0 : Class := { plain "java/lang/Object" none with
  accessFlags := 33
  interfaces := #[]
  cf := some (fileOf pool0 8 #[] #[{ accessFlags := 1, nameIndex := 5, descriptorIndex := 6, attributes := #[] }, { accessFlags := 273, nameIndex := 11, descriptorIndex := 12, attributes := #[] }, { accessFlags := 260, nameIndex := 96, descriptorIndex := 97, attributes := #[] }] 33 0 #[] #[])
  fields := #[]
  methods := #[k0m0, k0m1, k0m2]
  instanceTypes := #[]
  staticTypes := #[]
  resolved := Array.replicate 124 none
  statics := none }

def pool1 : Array CpInfo := pool [(2, .class_ 4), (0, .nameAndType 5 6), (0, u "java/lang/Object"), (0, u "<init>"), (0, u "()V"), (0, .class_ 8), (0, u "java/util/ArrayList"), (0, .methodref 7 3), (0, .class_ 11), (0, u "com/example/arcward/arcward/model/Variable"), (0, .string 13), (0, u "x"), (0, .methodref 10 15), (0, .nameAndType 5 16), (0, u "(Ljava/lang/String;I[I)V"), (0, .methodref 7 18), (0, .nameAndType 19 20), (0, u "add"), (0, u "(Ljava/lang/Object;)Z"), (0, .string 22), (0, u "y"), (0, .class_ 24), (0, u "com/example/arcward/arcward/solver/Domains"), (0, .class_ 26), (0, u "com/example/arcward/arcward/model/Instance"), (0, .methodref 25 28), (0, .nameAndType 5 29), (0, u "(Ljava/util/List;Ljava/util/List;)V"), (0, .methodref 23 31), (0, .nameAndType 5 32), (0, u "(Lcom/example/arcward/arcward/model/Instance;I)V"), (0, .methodref 34 35), (0, .class_ 36), (0, .nameAndType 37 38), (0, u "com/example/arcward/arcward/solver/DomainsClearResizedPinLaw"), (0, u "removals"), (0, u "(Lcom/example/arcward/arcward/solver/Domains;II)V"), (0, .methodref 23 40), (0, .nameAndType 41 6), (0, u "clearResized"), (0, .methodref 23 43), (0, .nameAndType 44 45), (0, u "resizedCount"), (0, u "()I"), (0, .methodref 23 47), (0, .nameAndType 48 49), (0, u "resized"), (0, u "(I)I"), (0, .methodref 23 51), (0, .nameAndType 52 53), (0, u "remove"), (0, u "(II)V"), (2, u "law"), (0, u "(III)Z")] 3

def k1m0 : Method := { name := "<init>", desc := "()V", sig := { parameters := [], returnType := none }, accessFlags := 1, code := none }
def k1c1 : Code := { maxStack := 9, maxLocals := 12, code := code, exceptionTable := #[], attributes := #[] }
def k1m1 : Method := { name := "law", desc := "(III)Z", sig := { parameters := [.int, .int, .int], returnType := some .boolean }, accessFlags := 9, code := some k1c1 }
def k1c2 : Code := { maxStack := 3, maxLocals := 6, code := method_3_code, exceptionTable := #[], attributes := #[] }
def k1m2 : Method := { name := "removals", desc := "(Lcom/example/arcward/arcward/solver/Domains;II)V", sig := { parameters := [(.object "com/example/arcward/arcward/solver/Domains"), .int, .int], returnType := none }, accessFlags := 10, code := some k1c2 }
/-- com/example/arcward/arcward/solver/DomainsClearResizedPinLaw -/
def k1 : Class := { plain "com/example/arcward/arcward/solver/DomainsClearResizedPinLaw" (some 0) with
  accessFlags := 49
  interfaces := #[]
  cf := some (fileOf pool1 34 #[] #[{ accessFlags := 1, nameIndex := 5, descriptorIndex := 6, attributes := #[] }, { accessFlags := 9, nameIndex := 56, descriptorIndex := 57, attributes := #[] }, { accessFlags := 10, nameIndex := 37, descriptorIndex := 38, attributes := #[] }] 49 2 #[] #[])
  fields := #[]
  methods := #[k1m0, k1m1, k1m2]
  instanceTypes := #[]
  staticTypes := #[]
  resolved := Array.replicate 61 none
  statics := none }

def pool2 : Array CpInfo := pool [(8, .class_ 10), (1, u "java/lang/Iterable"), (24, .class_ 36), (0, u "java/lang/Object")] 25

/-- java/lang/Iterable -/
def k2 : Class := { plain "java/lang/Iterable" (some 0) with
  accessFlags := 1537
  interfaces := #[]
  cf := some (fileOf pool2 8 #[] #[] 1537 35 #[] #[])
  fields := #[]
  methods := #[]
  instanceTypes := #[]
  staticTypes := #[]
  resolved := Array.replicate 62 none
  statics := none }

def pool3 : Array CpInfo := pool [(10, .class_ 12), (1, u "java/util/Collection"), (0, u "toArray"), (16, u "()Z"), (29, .class_ 61), (0, u "java/lang/Object"), (0, .class_ 63), (0, u "java/lang/Iterable"), (2, u "isEmpty"), (3, u "()[Ljava/lang/Object;")] 44

def k3m0 : Method := { name := "isEmpty", desc := "()Z", sig := { parameters := [], returnType := some .boolean }, accessFlags := 1025, code := none }
def k3m1 : Method := { name := "toArray", desc := "()[Ljava/lang/Object;", sig := { parameters := [], returnType := some (.array (.object "java/lang/Object")) }, accessFlags := 1025, code := none }
/-- java/util/Collection -/
def k3 : Class := { plain "java/util/Collection" (some 0) with
  accessFlags := 1537
  interfaces := #[2]
  cf := some (fileOf pool3 10 #[] #[{ accessFlags := 1025, nameIndex := 66, descriptorIndex := 30, attributes := #[] }, { accessFlags := 1025, nameIndex := 13, descriptorIndex := 70, attributes := #[] }] 1537 60 #[62] #[])
  fields := #[]
  methods := #[k3m0, k3m1]
  instanceTypes := #[]
  staticTypes := #[]
  resolved := Array.replicate 115 none
  statics := none }

def pool4 : Array CpInfo := pool [(1, .methodref 2 3), (0, .class_ 4), (0, .nameAndType 5 6), (0, u "java/lang/Object"), (0, u "<init>"), (0, u "()V"), (1, .class_ 10), (1, u "java/util/AbstractCollection"), (0, u "size"), (0, u "()I"), (64, .class_ 78), (0, u "java/util/Collection")] 81

def k4c0 : Code := { maxStack := 1, maxLocals := 1, code := jdk_22_method_1_code, exceptionTable := #[], attributes := #[] }
def k4m0 : Method := { name := "<init>", desc := "()V", sig := { parameters := [], returnType := none }, accessFlags := 4, code := some k4c0 }
def k4m1 : Method := { name := "size", desc := "()I", sig := { parameters := [], returnType := some .int }, accessFlags := 1025, code := none }
/-- java/util/AbstractCollection -/
def k4 : Class := { plain "java/util/AbstractCollection" (some 0) with
  accessFlags := 1057
  interfaces := #[3]
  cf := some (fileOf pool4 8 #[] #[{ accessFlags := 4, nameIndex := 5, descriptorIndex := 6, attributes := #[] }, { accessFlags := 1025, nameIndex := 11, descriptorIndex := 12, attributes := #[] }] 1057 2 #[77] #[])
  fields := #[]
  methods := #[k4m0, k4m1]
  instanceTypes := #[]
  staticTypes := #[]
  resolved := Array.replicate 160 none
  statics := none }

def pool5 : Array CpInfo := pool [(8, .class_ 10), (1, u "java/util/SequencedCollection"), (15, .class_ 27), (0, u "java/lang/Object"), (0, .class_ 29), (0, u "java/util/Collection")] 27

/-- java/util/SequencedCollection -/
def k5 : Class := { plain "java/util/SequencedCollection" (some 0) with
  accessFlags := 1537
  interfaces := #[3]
  cf := some (fileOf pool5 8 #[] #[] 1537 26 #[28] #[])
  fields := #[]
  methods := #[]
  instanceTypes := #[]
  staticTypes := #[]
  resolved := Array.replicate 57 none
  statics := none }

def pool6 : Array CpInfo := pool [(8, .class_ 10), (1, u "java/util/List"), (37, u "<init>"), (26, u "get"), (0, u "(I)Ljava/lang/Object;"), (2, u "size"), (0, u "()I"), (7, u "of"), (1, .fieldref 91 92), (0, .class_ 93), (0, .nameAndType 94 95), (0, u "java/util/ImmutableCollections"), (0, u "EMPTY_LIST"), (0, u "Ljava/util/ImmutableCollections$ListN;"), (0, .class_ 97), (0, u "java/util/ImmutableCollections$List12"), (2, .methodref 96 101), (0, .nameAndType 48 102), (0, u "(Ljava/lang/Object;Ljava/lang/Object;)V"), (0, .class_ 104), (0, u "java/lang/Object"), (3, u "([Ljava/lang/Object;)Ljava/util/List;"), (3, .methodref 91 113), (0, .nameAndType 114 115), (0, u "listCopy"), (0, u "(Ljava/util/Collection;)Ljava/util/List;"), (3, u "()Ljava/util/List;"), (0, .class_ 121), (0, u "java/util/SequencedCollection"), (1, u "iterator"), (0, u "()Ljava/util/Iterator;"), (109, u "copyOf")] 16

def k6m0 : Method := { name := "size", desc := "()I", sig := { parameters := [], returnType := some .int }, accessFlags := 1025, code := none }
def k6m1 : Method := { name := "iterator", desc := "()Ljava/util/Iterator;", sig := { parameters := [], returnType := some (.object "java/util/Iterator") }, accessFlags := 1025, code := none }
def k6m2 : Method := { name := "get", desc := "(I)Ljava/lang/Object;", sig := { parameters := [.int], returnType := some (.object "java/lang/Object") }, accessFlags := 1025, code := none }
def k6c3 : Code := { maxStack := 1, maxLocals := 0, code := jdk_40_method_36_code, exceptionTable := #[], attributes := #[] }
def k6m3 : Method := { name := "of", desc := "()Ljava/util/List;", sig := { parameters := [], returnType := some (.object "java/util/List") }, accessFlags := 9, code := some k6c3 }
def k6c4 : Code := { maxStack := 5, maxLocals := 2, code := jdk_40_method_47_code, exceptionTable := #[], attributes := #[] }
def k6m4 : Method := { name := "of", desc := "([Ljava/lang/Object;)Ljava/util/List;", sig := { parameters := [(.array (.object "java/lang/Object"))], returnType := some (.object "java/util/List") }, accessFlags := 137, code := some k6c4 }
def k6c5 : Code := { maxStack := 1, maxLocals := 1, code := jdk_40_method_48_code, exceptionTable := #[], attributes := #[] }
def k6m5 : Method := { name := "copyOf", desc := "(Ljava/util/Collection;)Ljava/util/List;", sig := { parameters := [(.object "java/util/Collection")], returnType := some (.object "java/util/List") }, accessFlags := 9, code := some k6c5 }
/-- java/util/List -/
def k6 : Class := { plain "java/util/List" (some 0) with
  accessFlags := 1537
  interfaces := #[5]
  cf := some (fileOf pool6 8 #[] #[{ accessFlags := 1025, nameIndex := 79, descriptorIndex := 80, attributes := #[] }, { accessFlags := 1025, nameIndex := 123, descriptorIndex := 124, attributes := #[] }, { accessFlags := 1025, nameIndex := 75, descriptorIndex := 76, attributes := #[] }, { accessFlags := 9, nameIndex := 88, descriptorIndex := 119, attributes := #[] }, { accessFlags := 137, nameIndex := 88, descriptorIndex := 108, attributes := #[] }, { accessFlags := 9, nameIndex := 234, descriptorIndex := 115, attributes := #[] }] 1537 103 #[120] #[])
  fields := #[]
  methods := #[k6m0, k6m1, k6m2, k6m3, k6m4, k6m5]
  instanceTypes := #[]
  staticTypes := #[]
  resolved := Array.replicate 251 none
  statics := none }

def pool7 : Array CpInfo := pool [(1, .methodref 2 3), (0, .class_ 4), (0, .nameAndType 5 6), (0, u "java/util/AbstractCollection"), (0, u "<init>"), (0, u "()V"), (0, .fieldref 8 9), (0, .class_ 10), (0, .nameAndType 11 12), (0, u "java/util/AbstractList"), (0, u "modCount"), (0, u "I"), (64, .class_ 78), (0, u "java/util/AbstractList$Itr"), (3, .class_ 83), (0, u "java/util/AbstractList$ListItr"), (9, .class_ 94), (0, u "java/util/AbstractList$RandomAccessSubList"), (3, .class_ 99), (0, u "java/util/AbstractList$SubList"), (33, .class_ 134), (0, u "java/util/List"), (73, .class_ 209), (0, u "java/util/AbstractList$SubList$1"), (0, .class_ 211), (0, u "java/util/AbstractList$RandomAccessSpliterator")] 6

def k7c0 : Code := { maxStack := 2, maxLocals := 1, code := jdk_39_method_1_code, exceptionTable := #[], attributes := #[] }
def k7m0 : Method := { name := "<init>", desc := "()V", sig := { parameters := [], returnType := none }, accessFlags := 4, code := some k7c0 }
/-- java/util/AbstractList -/
def k7 : Class := { plain "java/util/AbstractList" (some 4) with
  accessFlags := 1057
  interfaces := #[6]
  cf := some (fileOf pool7 8 #[.nestMembers #[93, 98, 208, 210, 82, 77]] #[{ accessFlags := 4, nameIndex := 5, descriptorIndex := 6, attributes := #[] }] 1057 2 #[133] #[{ accessFlags := 132, nameIndex := 11, descriptorIndex := 12, attributes := #[] }])
  fields := #[{ name := "modCount", type := .int, accessFlags := 132, slot := 0, constantValue := 0 }]
  methods := #[k7m0]
  instanceTypes := #[.int]
  staticTypes := #[]
  resolved := Array.replicate 218 none
  statics := none }

def pool8 : Array CpInfo := pool [(1, .class_ 2), (0, u "java/util/RandomAccess"), (0, .class_ 4), (0, u "java/lang/Object")] 2

/-- java/util/RandomAccess -/
def k8 : Class := { plain "java/util/RandomAccess" (some 0) with
  accessFlags := 1537
  interfaces := #[]
  cf := some (fileOf pool8 1 #[] #[] 1537 3 #[] #[])
  fields := #[]
  methods := #[]
  instanceTypes := #[]
  staticTypes := #[]
  resolved := Array.replicate 7 none
  statics := none }

def pool9 : Array CpInfo := pool [(1, .class_ 2), (0, u "java/lang/Cloneable"), (0, .class_ 4), (0, u "java/lang/Object")] 2

/-- java/lang/Cloneable -/
def k9 : Class := { plain "java/lang/Cloneable" (some 0) with
  accessFlags := 1537
  interfaces := #[]
  cf := some (fileOf pool9 1 #[] #[] 1537 3 #[] #[])
  fields := #[]
  methods := #[]
  instanceTypes := #[]
  staticTypes := #[]
  resolved := Array.replicate 7 none
  statics := none }

def pool10 : Array CpInfo := pool [(1, .class_ 2), (0, u "java/io/Serializable"), (0, .class_ 4), (0, u "java/lang/Object")] 2

/-- java/io/Serializable -/
def k10 : Class := { plain "java/io/Serializable" (some 0) with
  accessFlags := 1537
  interfaces := #[]
  cf := some (fileOf pool10 1 #[] #[] 1537 3 #[] #[])
  fields := #[]
  methods := #[]
  instanceTypes := #[]
  staticTypes := #[]
  resolved := Array.replicate 7 none
  statics := none }

def pool11 : Array CpInfo := pool [(1, .methodref 2 3), (0, .class_ 4), (0, .nameAndType 5 6), (0, u "java/util/AbstractList"), (0, u "<init>"), (0, u "()V"), (0, .class_ 8), (0, u "java/lang/Object"), (0, .fieldref 10 11), (0, .class_ 12), (0, .nameAndType 13 14), (0, u "java/util/ArrayList"), (0, u "elementData"), (0, u "[Ljava/lang/Object;"), (2, u "EMPTY_ELEMENTDATA"), (21, .fieldref 10 40), (0, .nameAndType 41 14), (0, u "DEFAULTCAPACITY_EMPTY_ELEMENTDATA"), (4, u "toArray"), (0, u "()[Ljava/lang/Object;"), (0, .fieldref 10 49), (0, .nameAndType 50 51), (0, u "size"), (0, u "I"), (6, .class_ 60), (1, u "java/util/Arrays"), (0, u "copyOf"), (1, .fieldref 10 64), (0, .nameAndType 65 51), (0, u "modCount"), (0, .methodref 58 67), (0, .nameAndType 61 68), (0, u "([Ljava/lang/Object;I)[Ljava/lang/Object;"), (0, .methodref 10 70), (0, .nameAndType 71 72), (0, u "grow"), (0, u "(I)[Ljava/lang/Object;"), (6, .methodref 80 81), (0, .class_ 82), (0, .nameAndType 83 84), (0, u "java/lang/Math"), (0, u "max"), (0, u "(II)I"), (11, u "(Ljava/lang/Object;)Z"), (32, .methodref 10 130), (0, .nameAndType 71 47), (0, .methodref 10 132), (0, .nameAndType 133 134), (0, u "add"), (0, u "(Ljava/lang/Object;[Ljava/lang/Object;I)V"), (13, .class_ 149), (0, u "java/util/List"), (23, u "()Z"), (88, .class_ 263), (0, u "java/util/ArrayList$ListItr"), (3, .class_ 268), (0, u "java/util/ArrayList$Itr"), (7, .class_ 277), (0, u "java/util/ArrayList$SubList"), (12, .class_ 291), (0, u "java/util/ArrayList$ArrayListSpliterator"), (37, .class_ 330), (0, u "java/util/RandomAccess"), (0, .class_ 332), (0, u "java/lang/Cloneable"), (0, .class_ 334), (0, u "java/io/Serializable"), (0, u "serialVersionUID"), (0, u "J"), (3, u "DEFAULT_CAPACITY"), (22, u "isEmpty"), (136, .class_ 501), (0, u "java/util/ArrayList$SubList$2"), (0, .class_ 503), (0, u "java/util/ArrayList$SubList$1")] 5

def k11c0 : Code := { maxStack := 2, maxLocals := 1, code := jdk_38_method_2_code, exceptionTable := #[], attributes := #[] }
def k11m0 : Method := { name := "<init>", desc := "()V", sig := { parameters := [], returnType := none }, accessFlags := 1, code := some k11c0 }
def k11c1 : Code := { maxStack := 4, maxLocals := 4, code := jdk_38_method_6_code, exceptionTable := #[], attributes := #[] }
def k11m1 : Method := { name := "grow", desc := "(I)[Ljava/lang/Object;", sig := { parameters := [.int], returnType := some (.array (.object "java/lang/Object")) }, accessFlags := 2, code := some k11c1 }
def k11c2 : Code := { maxStack := 3, maxLocals := 1, code := jdk_38_method_7_code, exceptionTable := #[], attributes := #[] }
def k11m2 : Method := { name := "grow", desc := "()[Ljava/lang/Object;", sig := { parameters := [], returnType := some (.array (.object "java/lang/Object")) }, accessFlags := 2, code := some k11c2 }
def k11c3 : Code := { maxStack := 1, maxLocals := 1, code := jdk_38_method_9_code, exceptionTable := #[], attributes := #[] }
def k11m3 : Method := { name := "isEmpty", desc := "()Z", sig := { parameters := [], returnType := some .boolean }, accessFlags := 1, code := some k11c3 }
def k11c4 : Code := { maxStack := 2, maxLocals := 1, code := jdk_38_method_16_code, exceptionTable := #[], attributes := #[] }
def k11m4 : Method := { name := "toArray", desc := "()[Ljava/lang/Object;", sig := { parameters := [], returnType := some (.array (.object "java/lang/Object")) }, accessFlags := 1, code := some k11c4 }
def k11c5 : Code := { maxStack := 3, maxLocals := 4, code := jdk_38_method_24_code, exceptionTable := #[], attributes := #[] }
def k11m5 : Method := { name := "add", desc := "(Ljava/lang/Object;[Ljava/lang/Object;I)V", sig := { parameters := [(.object "java/lang/Object"), (.array (.object "java/lang/Object")), .int], returnType := none }, accessFlags := 2, code := some k11c5 }
def k11c6 : Code := { maxStack := 4, maxLocals := 2, code := jdk_38_method_25_code, exceptionTable := #[], attributes := #[] }
def k11m6 : Method := { name := "add", desc := "(Ljava/lang/Object;)Z", sig := { parameters := [(.object "java/lang/Object")], returnType := some .boolean }, accessFlags := 1, code := some k11c6 }
/-- java/util/ArrayList -/
def k11 : Class := { plain "java/util/ArrayList" (some 7) with
  accessFlags := 33
  interfaces := #[6, 8, 9, 10]
  cf := some (fileOf pool11 10 #[.nestMembers #[290, 276, 500, 502, 262, 267]] #[{ accessFlags := 1, nameIndex := 5, descriptorIndex := 6, attributes := #[] }, { accessFlags := 2, nameIndex := 71, descriptorIndex := 72, attributes := #[] }, { accessFlags := 2, nameIndex := 71, descriptorIndex := 47, attributes := #[] }, { accessFlags := 1, nameIndex := 363, descriptorIndex := 173, attributes := #[] }, { accessFlags := 1, nameIndex := 46, descriptorIndex := 47, attributes := #[] }, { accessFlags := 2, nameIndex := 133, descriptorIndex := 134, attributes := #[] }, { accessFlags := 1, nameIndex := 133, descriptorIndex := 96, attributes := #[] }] 33 2 #[148, 329, 331, 333] #[{ accessFlags := 26, nameIndex := 335, descriptorIndex := 336, attributes := #[] }, { accessFlags := 26, nameIndex := 340, descriptorIndex := 51, attributes := #[] }, { accessFlags := 26, nameIndex := 17, descriptorIndex := 14, attributes := #[] }, { accessFlags := 26, nameIndex := 41, descriptorIndex := 14, attributes := #[] }, { accessFlags := 128, nameIndex := 13, descriptorIndex := 14, attributes := #[] }, { accessFlags := 2, nameIndex := 50, descriptorIndex := 51, attributes := #[] }])
  fields := #[{ name := "serialVersionUID", type := .long, accessFlags := 26, slot := 0, constantValue := 0 }, { name := "DEFAULT_CAPACITY", type := .int, accessFlags := 26, slot := 1, constantValue := 0 }, { name := "EMPTY_ELEMENTDATA", type := (.array (.object "java/lang/Object")), accessFlags := 26, slot := 2, constantValue := 0 }, { name := "DEFAULTCAPACITY_EMPTY_ELEMENTDATA", type := (.array (.object "java/lang/Object")), accessFlags := 26, slot := 3, constantValue := 0 }, { name := "elementData", type := (.array (.object "java/lang/Object")), accessFlags := 128, slot := 1, constantValue := 0 }, { name := "size", type := .int, accessFlags := 2, slot := 2, constantValue := 0 }]
  methods := #[k11m0, k11m1, k11m2, k11m3, k11m4, k11m5, k11m6]
  instanceTypes := #[.int, (.array (.object "java/lang/Object")), .int]
  staticTypes := #[.long, .int, (.array (.object "java/lang/Object")), (.array (.object "java/lang/Object"))]
  resolved := Array.replicate 509 none
  statics := some 0 }

def pool12 : Array CpInfo := pool [(1, .methodref 2 3), (0, .class_ 4), (0, .nameAndType 5 6), (0, u "java/lang/Object"), (0, u "<init>"), (0, u "()V"), (9, .fieldref 17 18), (0, .class_ 19), (0, .nameAndType 20 21), (0, u "com/example/arcward/arcward/model/Variable"), (0, u "name"), (0, u "Ljava/lang/String;"), (0, .fieldref 17 23), (0, .nameAndType 24 25), (0, u "index"), (0, u "I"), (0, .methodref 27 28), (0, .class_ 29), (0, .nameAndType 30 31), (0, u "[I"), (0, u "clone"), (0, u "()Ljava/lang/Object;"), (0, .fieldref 17 33), (0, .nameAndType 34 29), (0, u "values"), (6, u "(Ljava/lang/String;I[I)V"), (6, u "()I"), (0, u "size")] 21

def k12c0 : Code := { maxStack := 3, maxLocals := 5, code := prog_43_method_1_code, exceptionTable := #[], attributes := #[] }
def k12m0 : Method := { name := "<init>", desc := "(Ljava/lang/String;I[I)V", sig := { parameters := [(.object "java/lang/String"), .int, (.array .int)], returnType := none }, accessFlags := 1, code := some k12c0 }
def k12c1 : Code := { maxStack := 1, maxLocals := 1, code := prog_43_method_3_code, exceptionTable := #[], attributes := #[] }
def k12m1 : Method := { name := "index", desc := "()I", sig := { parameters := [], returnType := some .int }, accessFlags := 1, code := some k12c1 }
def k12c2 : Code := { maxStack := 1, maxLocals := 1, code := prog_43_method_4_code, exceptionTable := #[], attributes := #[] }
def k12m2 : Method := { name := "size", desc := "()I", sig := { parameters := [], returnType := some .int }, accessFlags := 1, code := some k12c2 }
/-- com/example/arcward/arcward/model/Variable -/
def k12 : Class := { plain "com/example/arcward/arcward/model/Variable" (some 0) with
  accessFlags := 49
  interfaces := #[]
  cf := some (fileOf pool12 17 #[] #[{ accessFlags := 1, nameIndex := 5, descriptorIndex := 41, attributes := #[] }, { accessFlags := 1, nameIndex := 24, descriptorIndex := 48, attributes := #[] }, { accessFlags := 1, nameIndex := 49, descriptorIndex := 48, attributes := #[] }] 49 2 #[] #[{ accessFlags := 18, nameIndex := 20, descriptorIndex := 21, attributes := #[] }, { accessFlags := 18, nameIndex := 24, descriptorIndex := 25, attributes := #[] }, { accessFlags := 18, nameIndex := 34, descriptorIndex := 29, attributes := #[] }])
  fields := #[{ name := "name", type := (.object "java/lang/String"), accessFlags := 18, slot := 0, constantValue := 0 }, { name := "index", type := .int, accessFlags := 18, slot := 1, constantValue := 0 }, { name := "values", type := (.array .int), accessFlags := 18, slot := 2, constantValue := 0 }]
  methods := #[k12m0, k12m1, k12m2]
  instanceTypes := #[(.object "java/lang/String"), .int, (.array .int)]
  staticTypes := #[]
  resolved := Array.replicate 71 none
  statics := none }

def pool13 : Array CpInfo := pool [(1, .class_ 2), (0, u "java/lang/Comparable"), (0, .class_ 4), (0, u "java/lang/Object")] 7

/-- java/lang/Comparable -/
def k13 : Class := { plain "java/lang/Comparable" (some 0) with
  accessFlags := 1537
  interfaces := #[]
  cf := some (fileOf pool13 1 #[] #[] 1537 3 #[] #[])
  fields := #[]
  methods := #[]
  instanceTypes := #[]
  staticTypes := #[]
  resolved := Array.replicate 12 none
  statics := none }

def pool14 : Array CpInfo := pool [(2, .class_ 4), (1, u "java/lang/CharSequence"), (42, .class_ 48), (0, u "java/lang/CharSequence$1CodePointIterator"), (10, .class_ 60), (0, u "java/lang/CharSequence$1CharIterator"), (5, .class_ 67), (0, u "java/lang/Object")] 63

/-- java/lang/CharSequence -/
def k14 : Class := { plain "java/lang/CharSequence" (some 0) with
  accessFlags := 1537
  interfaces := #[]
  cf := some (fileOf pool14 2 #[.nestMembers #[47, 59]] #[] 1537 66 #[] #[])
  fields := #[]
  methods := #[]
  instanceTypes := #[]
  staticTypes := #[]
  resolved := Array.replicate 131 none
  statics := none }

def pool15 : Array CpInfo := pool [(1, .class_ 2), (0, u "java/lang/constant/Constable"), (0, .class_ 4), (0, u "java/lang/Object")] 6

/-- java/lang/constant/Constable -/
def k15 : Class := { plain "java/lang/constant/Constable" (some 0) with
  accessFlags := 1537
  interfaces := #[]
  cf := some (fileOf pool15 1 #[] #[] 1537 3 #[] #[])
  fields := #[]
  methods := #[]
  instanceTypes := #[]
  staticTypes := #[]
  resolved := Array.replicate 11 none
  statics := none }

def pool16 : Array CpInfo := pool [(1, .class_ 2), (0, u "java/lang/constant/ConstantDesc"), (0, .class_ 4), (0, u "java/lang/Object")] 32

/-- java/lang/constant/ConstantDesc -/
def k16 : Class := { plain "java/lang/constant/ConstantDesc" (some 0) with
  accessFlags := 1537
  interfaces := #[]
  cf := some (fileOf pool16 1 #[] #[] 1537 3 #[] #[])
  fields := #[]
  methods := #[]
  instanceTypes := #[]
  staticTypes := #[]
  resolved := Array.replicate 37 none
  statics := none }

def pool17 : Array CpInfo := pool [(2, .class_ 4), (1, u "java/lang/Object"), (0, u "<init>"), (0, u "()V"), (3, .class_ 12), (1, u "java/lang/String"), (0, u "value"), (0, u "[B"), (2, u "coder"), (0, u "B"), (2, u "hash"), (0, u "I"), (2, u "hashIsZero"), (0, u "Z"), (13, u "COMPACT_STRINGS"), (534, .class_ 576), (0, u "java/lang/CharSequence"), (22, u "CASE_INSENSITIVE_ORDER"), (0, u "Ljava/util/Comparator;"), (500, u "serialPersistentFields"), (0, u "[Ljava/io/ObjectStreamField;"), (0, .class_ 1104), (0, u "java/lang/String$CaseInsensitiveComparator"), (1, .class_ 1107), (0, u "java/io/Serializable"), (0, .class_ 1109), (0, u "java/lang/Comparable"), (0, .class_ 1111), (0, u "java/lang/constant/Constable"), (0, .class_ 1113), (0, u "java/lang/constant/ConstantDesc"), (2, u "serialVersionUID"), (0, u "J"), (3, u "REPL"), (0, u "C"), (2, u "LATIN1"), (1, u "UTF16")] 323

def k17m0 : Method := { name := "<init>", desc := "()V", sig := { parameters := [], returnType := none }, accessFlags := 1, code := none }
/-- java/lang/String -/
def k17 : Class := { plain "java/lang/String" (some 0) with
  accessFlags := 49
  interfaces := #[10, 13, 14, 15, 16]
  cf := some (fileOf pool17 10 #[.nestMembers #[1103]] #[{ accessFlags := 1, nameIndex := 5, descriptorIndex := 6, attributes := #[] }] 49 2 #[1106, 1108, 575, 1110, 1112] #[{ accessFlags := 18, nameIndex := 13, descriptorIndex := 14, attributes := #[] }, { accessFlags := 18, nameIndex := 17, descriptorIndex := 18, attributes := #[] }, { accessFlags := 2, nameIndex := 21, descriptorIndex := 22, attributes := #[] }, { accessFlags := 2, nameIndex := 25, descriptorIndex := 26, attributes := #[] }, { accessFlags := 26, nameIndex := 1116, descriptorIndex := 1117, attributes := #[] }, { accessFlags := 24, nameIndex := 40, descriptorIndex := 26, attributes := #[] }, { accessFlags := 26, nameIndex := 1101, descriptorIndex := 1102, attributes := #[] }, { accessFlags := 26, nameIndex := 1121, descriptorIndex := 1122, attributes := #[] }, { accessFlags := 25, nameIndex := 599, descriptorIndex := 600, attributes := #[] }, { accessFlags := 24, nameIndex := 1125, descriptorIndex := 18, attributes := #[] }, { accessFlags := 24, nameIndex := 1127, descriptorIndex := 18, attributes := #[] }])
  fields := #[{ name := "value", type := (.array .byte), accessFlags := 18, slot := 0, constantValue := 0 }, { name := "coder", type := .byte, accessFlags := 18, slot := 1, constantValue := 0 }, { name := "hash", type := .int, accessFlags := 2, slot := 2, constantValue := 0 }, { name := "hashIsZero", type := .boolean, accessFlags := 2, slot := 3, constantValue := 0 }, { name := "serialVersionUID", type := .long, accessFlags := 26, slot := 0, constantValue := 0 }, { name := "COMPACT_STRINGS", type := .boolean, accessFlags := 24, slot := 1, constantValue := 0 }, { name := "serialPersistentFields", type := (.array (.object "java/io/ObjectStreamField")), accessFlags := 26, slot := 2, constantValue := 0 }, { name := "REPL", type := .char, accessFlags := 26, slot := 3, constantValue := 0 }, { name := "CASE_INSENSITIVE_ORDER", type := (.object "java/util/Comparator"), accessFlags := 25, slot := 4, constantValue := 0 }, { name := "LATIN1", type := .byte, accessFlags := 24, slot := 5, constantValue := 0 }, { name := "UTF16", type := .byte, accessFlags := 24, slot := 6, constantValue := 0 }]
  methods := #[k17m0]
  instanceTypes := #[(.array .byte), .byte, .int, .boolean]
  staticTypes := #[.long, .boolean, (.array (.object "java/io/ObjectStreamField")), .char, (.object "java/util/Comparator"), .byte, .byte]
  resolved := Array.replicate 1451 none
  statics := none }

def pool18 : Array CpInfo := pool [(1, .class_ 2), (0, u "java/lang/Math"), (1, .class_ 6), (1, u "java/lang/Object"), (0, u "<init>"), (0, u "()V"), (89, .class_ 100), (1, u "java/lang/Math$RandomNumberGeneratorHolder"), (71, u "negativeZeroFloatBits"), (0, u "J"), (2, u "negativeZeroDoubleBits"), (21, u "max"), (2, u "min"), (43, u "$assertionsDisabled"), (0, u "Z"), (88, u "(II)I"), (2, u "twoToTheDoubleScaleDown"), (0, u "D"), (4, u "twoToTheDoubleScaleUp"), (9, u "E"), (3, u "PI"), (2, u "TAU"), (2, u "DEGREES_TO_RADIANS"), (0, u "RADIANS_TO_DEGREES")] 94

def k18m0 : Method := { name := "<init>", desc := "()V", sig := { parameters := [], returnType := none }, accessFlags := 2, code := none }
def k18c1 : Code := { maxStack := 2, maxLocals := 2, code := jdk_29_method_65_code, exceptionTable := #[], attributes := #[] }
def k18m1 : Method := { name := "max", desc := "(II)I", sig := { parameters := [.int, .int], returnType := some .int }, accessFlags := 9, code := some k18c1 }
def k18c2 : Code := { maxStack := 2, maxLocals := 2, code := jdk_29_method_69_code, exceptionTable := #[], attributes := #[] }
def k18m2 : Method := { name := "min", desc := "(II)I", sig := { parameters := [.int, .int], returnType := some .int }, accessFlags := 9, code := some k18c2 }
/-- java/lang/Math -/
def k18 : Class := { plain "java/lang/Math" (some 0) with
  accessFlags := 49
  interfaces := #[]
  cf := some (fileOf pool18 1 #[.nestMembers #[98]] #[{ accessFlags := 2, nameIndex := 7, descriptorIndex := 8, attributes := #[] }, { accessFlags := 9, nameIndex := 198, descriptorIndex := 335, attributes := #[] }, { accessFlags := 9, nameIndex := 201, descriptorIndex := 335, attributes := #[] }] 49 4 #[] #[{ accessFlags := 25, nameIndex := 354, descriptorIndex := 339, attributes := #[] }, { accessFlags := 25, nameIndex := 358, descriptorIndex := 339, attributes := #[] }, { accessFlags := 25, nameIndex := 361, descriptorIndex := 339, attributes := #[] }, { accessFlags := 26, nameIndex := 364, descriptorIndex := 339, attributes := #[] }, { accessFlags := 26, nameIndex := 365, descriptorIndex := 339, attributes := #[] }, { accessFlags := 26, nameIndex := 172, descriptorIndex := 173, attributes := #[] }, { accessFlags := 26, nameIndex := 176, descriptorIndex := 173, attributes := #[] }, { accessFlags := 8, nameIndex := 344, descriptorIndex := 339, attributes := #[] }, { accessFlags := 8, nameIndex := 338, descriptorIndex := 339, attributes := #[] }, { accessFlags := 4120, nameIndex := 245, descriptorIndex := 246, attributes := #[] }])
  fields := #[{ name := "E", type := .double, accessFlags := 25, slot := 0, constantValue := 0 }, { name := "PI", type := .double, accessFlags := 25, slot := 1, constantValue := 0 }, { name := "TAU", type := .double, accessFlags := 25, slot := 2, constantValue := 0 }, { name := "DEGREES_TO_RADIANS", type := .double, accessFlags := 26, slot := 3, constantValue := 0 }, { name := "RADIANS_TO_DEGREES", type := .double, accessFlags := 26, slot := 4, constantValue := 0 }, { name := "negativeZeroFloatBits", type := .long, accessFlags := 26, slot := 5, constantValue := 0 }, { name := "negativeZeroDoubleBits", type := .long, accessFlags := 26, slot := 6, constantValue := 0 }, { name := "twoToTheDoubleScaleUp", type := .double, accessFlags := 8, slot := 7, constantValue := 0 }, { name := "twoToTheDoubleScaleDown", type := .double, accessFlags := 8, slot := 8, constantValue := 0 }, { name := "$assertionsDisabled", type := .boolean, accessFlags := 4120, slot := 9, constantValue := 0 }]
  methods := #[k18m0, k18m1, k18m2]
  instanceTypes := #[]
  staticTypes := #[.double, .double, .double, .double, .double, .long, .long, .double, .double, .boolean]
  resolved := Array.replicate 460 none
  statics := none }

def pool19 : Array CpInfo := pool [(1, .methodref 2 3), (0, .class_ 4), (0, .nameAndType 5 6), (0, u "java/lang/Object"), (0, u "<init>"), (0, u "()V"), (0, .fieldref 8 9), (0, .class_ 10), (0, .nameAndType 11 12), (0, u "com/example/arcward/arcward/solver/Domains"), (0, u "trail"), (0, u "[I"), (0, .fieldref 8 14), (0, .nameAndType 15 12), (0, u "removedBy"), (0, .methodref 17 18), (0, .class_ 19), (0, .nameAndType 20 21), (0, u "com/example/arcward/arcward/model/Instance"), (0, u "variables"), (0, u "()Ljava/util/List;"), (0, .interfaceMethodref 23 24), (0, .class_ 25), (0, .nameAndType 26 27), (0, u "java/util/List"), (0, u "size"), (0, u "()I"), (0, .class_ 29), (0, u "[J"), (0, .fieldref 8 31), (0, .nameAndType 32 33), (0, u "bits"), (0, u "[[J"), (0, .fieldref 8 35), (0, .nameAndType 36 12), (0, u "sizes"), (0, .fieldref 8 38), (0, .nameAndType 39 12), (0, u "resized"), (0, .fieldref 8 41), (0, .nameAndType 42 43), (0, u "inResized"), (0, u "[Z"), (0, .interfaceMethodref 23 45), (0, .nameAndType 46 47), (0, u "get"), (0, u "(I)Ljava/lang/Object;"), (0, .class_ 49), (0, u "com/example/arcward/arcward/model/Variable"), (0, .methodref 48 24), (0, .methodref 8 52), (0, .nameAndType 53 54), (0, u "wordsFor"), (0, u "(I)I"), (0, .fieldref 8 56), (0, .nameAndType 57 58), (0, u "resizedCount"), (0, u "I"), (38, .long 18446744073709551615), (9, .methodref 8 108), (0, .nameAndType 109 110), (0, u "remove"), (0, u "(III)V"), (0, .methodref 8 112), (0, .nameAndType 113 114), (0, u "markResized"), (0, u "(I)V"), (0, .fieldref 8 116), (0, .nameAndType 117 58), (0, u "trailLength"), (6, u "NO_ARC"), (2, u "(Lcom/example/arcward/arcward/model/Instance;I)V"), (3, u "clearResized"), (10, u "(II)V")] 4

def k19c0 : Code := { maxStack := 7, maxLocals := 7, code := prog_50_method_1_code, exceptionTable := #[], attributes := #[] }
def k19m0 : Method := { name := "<init>", desc := "(Lcom/example/arcward/arcward/model/Instance;I)V", sig := { parameters := [(.object "com/example/arcward/arcward/model/Instance"), .int], returnType := none }, accessFlags := 0, code := some k19c0 }
def k19c1 : Code := { maxStack := 1, maxLocals := 1, code := prog_50_method_3_code, exceptionTable := #[], attributes := #[] }
def k19m1 : Method := { name := "resizedCount", desc := "()I", sig := { parameters := [], returnType := some .int }, accessFlags := 0, code := some k19c1 }
def k19c2 : Code := { maxStack := 2, maxLocals := 2, code := prog_50_method_4_code, exceptionTable := #[], attributes := #[] }
def k19m2 : Method := { name := "resized", desc := "(I)I", sig := { parameters := [.int], returnType := some .int }, accessFlags := 0, code := some k19c2 }
def k19c3 : Code := { maxStack := 3, maxLocals := 2, code := prog_50_method_5_code, exceptionTable := #[], attributes := #[] }
def k19m3 : Method := { name := "clearResized", desc := "()V", sig := { parameters := [], returnType := none }, accessFlags := 0, code := some k19c3 }
def k19c4 : Code := { maxStack := 2, maxLocals := 1, code := prog_50_method_12_code, exceptionTable := #[], attributes := #[] }
def k19m4 : Method := { name := "wordsFor", desc := "(I)I", sig := { parameters := [.int], returnType := some .int }, accessFlags := 8, code := some k19c4 }
def k19c5 : Code := { maxStack := 4, maxLocals := 3, code := prog_50_method_18_code, exceptionTable := #[], attributes := #[] }
def k19m5 : Method := { name := "remove", desc := "(II)V", sig := { parameters := [.int, .int], returnType := none }, accessFlags := 0, code := some k19c5 }
def k19c6 : Code := { maxStack := 8, maxLocals := 4, code := prog_50_method_19_code, exceptionTable := #[], attributes := #[] }
def k19m6 : Method := { name := "remove", desc := "(III)V", sig := { parameters := [.int, .int, .int], returnType := none }, accessFlags := 0, code := some k19c6 }
def k19c7 : Code := { maxStack := 5, maxLocals := 2, code := prog_50_method_23_code, exceptionTable := #[], attributes := #[] }
def k19m7 : Method := { name := "markResized", desc := "(I)V", sig := { parameters := [.int], returnType := none }, accessFlags := 2, code := some k19c7 }
/-- com/example/arcward/arcward/solver/Domains -/
def k19 : Class := { plain "com/example/arcward/arcward/solver/Domains" (some 0) with
  accessFlags := 48
  interfaces := #[]
  cf := some (fileOf pool19 8 #[] #[{ accessFlags := 0, nameIndex := 5, descriptorIndex := 127, attributes := #[] }, { accessFlags := 0, nameIndex := 57, descriptorIndex := 27, attributes := #[] }, { accessFlags := 0, nameIndex := 39, descriptorIndex := 54, attributes := #[] }, { accessFlags := 0, nameIndex := 131, descriptorIndex := 6, attributes := #[] }, { accessFlags := 8, nameIndex := 53, descriptorIndex := 54, attributes := #[] }, { accessFlags := 0, nameIndex := 109, descriptorIndex := 142, attributes := #[] }, { accessFlags := 0, nameIndex := 109, descriptorIndex := 110, attributes := #[] }, { accessFlags := 2, nameIndex := 113, descriptorIndex := 114, attributes := #[] }] 48 2 #[] #[{ accessFlags := 26, nameIndex := 124, descriptorIndex := 58, attributes := #[] }, { accessFlags := 18, nameIndex := 32, descriptorIndex := 33, attributes := #[] }, { accessFlags := 18, nameIndex := 36, descriptorIndex := 12, attributes := #[] }, { accessFlags := 18, nameIndex := 15, descriptorIndex := 12, attributes := #[] }, { accessFlags := 18, nameIndex := 39, descriptorIndex := 12, attributes := #[] }, { accessFlags := 18, nameIndex := 42, descriptorIndex := 43, attributes := #[] }, { accessFlags := 2, nameIndex := 57, descriptorIndex := 58, attributes := #[] }, { accessFlags := 2, nameIndex := 11, descriptorIndex := 12, attributes := #[] }, { accessFlags := 2, nameIndex := 117, descriptorIndex := 58, attributes := #[] }])
  fields := #[{ name := "NO_ARC", type := .int, accessFlags := 26, slot := 0, constantValue := 0 }, { name := "bits", type := (.array (.array .long)), accessFlags := 18, slot := 0, constantValue := 0 }, { name := "sizes", type := (.array .int), accessFlags := 18, slot := 1, constantValue := 0 }, { name := "removedBy", type := (.array .int), accessFlags := 18, slot := 2, constantValue := 0 }, { name := "resized", type := (.array .int), accessFlags := 18, slot := 3, constantValue := 0 }, { name := "inResized", type := (.array .boolean), accessFlags := 18, slot := 4, constantValue := 0 }, { name := "resizedCount", type := .int, accessFlags := 2, slot := 5, constantValue := 0 }, { name := "trail", type := (.array .int), accessFlags := 2, slot := 6, constantValue := 0 }, { name := "trailLength", type := .int, accessFlags := 2, slot := 7, constantValue := 0 }]
  methods := #[k19m0, k19m1, k19m2, k19m3, k19m4, k19m5, k19m6, k19m7]
  instanceTypes := #[(.array (.array .long)), (.array .int), (.array .int), (.array .int), (.array .boolean), .int, (.array .int), .int]
  staticTypes := #[.int]
  resolved := Array.replicate 147 none
  statics := none }

def pool20 : Array CpInfo := pool [(1, .methodref 2 3), (0, .class_ 4), (0, .nameAndType 5 6), (0, u "java/lang/Object"), (0, u "<init>"), (0, u "()V"), (0, .interfaceMethodref 8 9), (0, .class_ 10), (0, .nameAndType 11 12), (0, u "java/util/List"), (0, u "copyOf"), (0, u "(Ljava/util/Collection;)Ljava/util/List;"), (0, .fieldref 14 15), (0, .class_ 16), (0, .nameAndType 17 18), (0, u "com/example/arcward/arcward/model/Instance"), (0, u "variables"), (0, u "Ljava/util/List;"), (0, .fieldref 14 20), (0, .nameAndType 21 18), (0, u "constraints"), (0, .interfaceMethodref 8 23), (0, .nameAndType 24 25), (0, u "size"), (0, u "()I"), (0, .interfaceMethodref 8 27), (0, .nameAndType 28 29), (0, u "get"), (0, u "(I)Ljava/lang/Object;"), (0, .class_ 31), (0, u "com/example/arcward/arcward/model/Variable"), (0, .methodref 30 33), (0, .nameAndType 34 25), (0, u "index"), (15, .interfaceMethodref 8 51), (0, .nameAndType 52 53), (0, u "iterator"), (0, u "()Ljava/util/Iterator;"), (0, .interfaceMethodref 55 56), (0, .class_ 57), (0, .nameAndType 58 59), (0, u "java/util/Iterator"), (0, u "hasNext"), (0, u "()Z"), (19, u "(Ljava/util/List;Ljava/util/List;)V"), (4, u "()Ljava/util/List;")] 21

def k20c0 : Code := { maxStack := 5, maxLocals := 7, code := prog_11_method_1_code, exceptionTable := #[], attributes := #[] }
def k20m0 : Method := { name := "<init>", desc := "(Ljava/util/List;Ljava/util/List;)V", sig := { parameters := [(.object "java/util/List"), (.object "java/util/List")], returnType := none }, accessFlags := 1, code := some k20c0 }
def k20c1 : Code := { maxStack := 1, maxLocals := 1, code := prog_11_method_2_code, exceptionTable := #[], attributes := #[] }
def k20m1 : Method := { name := "variables", desc := "()Ljava/util/List;", sig := { parameters := [], returnType := some (.object "java/util/List") }, accessFlags := 1, code := some k20c1 }
/-- com/example/arcward/arcward/model/Instance -/
def k20 : Class := { plain "com/example/arcward/arcward/model/Instance" (some 0) with
  accessFlags := 49
  interfaces := #[]
  cf := some (fileOf pool20 14 #[] #[{ accessFlags := 1, nameIndex := 5, descriptorIndex := 79, attributes := #[] }, { accessFlags := 1, nameIndex := 17, descriptorIndex := 84, attributes := #[] }] 49 2 #[] #[{ accessFlags := 18, nameIndex := 17, descriptorIndex := 18, attributes := #[] }, { accessFlags := 18, nameIndex := 21, descriptorIndex := 18, attributes := #[] }])
  fields := #[{ name := "variables", type := (.object "java/util/List"), accessFlags := 18, slot := 0, constantValue := 0 }, { name := "constraints", type := (.object "java/util/List"), accessFlags := 18, slot := 1, constantValue := 0 }]
  methods := #[k20m0, k20m1]
  instanceTypes := #[(.object "java/util/List"), (.object "java/util/List")]
  staticTypes := #[]
  resolved := Array.replicate 106 none
  statics := none }

def pool21 : Array CpInfo := pool [(2, .class_ 4), (1, u "java/lang/Object"), (0, u "<init>"), (0, u "()V"), (3, .class_ 11), (0, u "java/util/ImmutableCollections$List12"), (0, .class_ 13), (0, u "java/util/ImmutableCollections$ListN"), (3, u "Z"), (0, .class_ 19), (0, u "java/util/List"), (0, .interfaceMethodref 21 22), (0, .class_ 23), (0, .nameAndType 24 25), (0, u "java/util/Collection"), (0, u "isEmpty"), (0, u "()Z"), (0, .interfaceMethodref 18 27), (0, .nameAndType 28 29), (0, u "of"), (0, u "()Ljava/util/List;"), (0, .interfaceMethodref 21 31), (0, .nameAndType 32 33), (0, u "toArray"), (0, u "()[Ljava/lang/Object;"), (0, .interfaceMethodref 18 35), (0, .nameAndType 28 36), (0, u "([Ljava/lang/Object;)Ljava/util/List;"), (10, .class_ 49), (1, u "java/util/ImmutableCollections"), (0, u "$assertionsDisabled"), (5, u "[Ljava/lang/Object;"), (5, u "EMPTY_LIST"), (0, u "Ljava/util/ImmutableCollections$ListN;"), (8, u "EMPTY_LIST_NULLS"), (22, u "SALT32L"), (0, u "J"), (2, u "REVERSE"), (6, u "archivedObjects"), (2, u "EMPTY"), (0, u "Ljava/lang/Object;"), (0, .class_ 112), (0, u "java/util/ImmutableCollections$SetN"), (5, u "EMPTY_SET"), (0, u "Ljava/util/ImmutableCollections$SetN;"), (0, .class_ 121), (0, u "java/util/ImmutableCollections$MapN"), (3, u "EMPTY_MAP"), (0, u "Ljava/util/ImmutableCollections$MapN;"), (4, u "EXPAND_FACTOR"), (0, u "I"), (9, u "listCopy"), (0, u "(Ljava/util/Collection;)Ljava/util/List;"), (25, .class_ 170), (0, u "java/util/ImmutableCollections$MapN$MapNIterator"), (0, .class_ 172), (0, u "java/util/ImmutableCollections$MapN$1"), (0, .class_ 174), (0, u "java/util/ImmutableCollections$Map1"), (0, .class_ 176), (0, u "java/util/ImmutableCollections$AbstractImmutableMap"), (0, .class_ 178), (0, u "java/util/ImmutableCollections$SetN$SetNIterator"), (0, .class_ 180), (0, u "java/util/ImmutableCollections$Set12"), (0, .class_ 182), (0, u "java/util/ImmutableCollections$Set12$1"), (0, .class_ 184), (0, u "java/util/ImmutableCollections$AbstractImmutableSet"), (0, .class_ 186), (0, u "java/util/ImmutableCollections$SubList"), (0, .class_ 188), (0, u "java/util/ImmutableCollections$ListItr"), (0, .class_ 190), (0, u "java/util/ImmutableCollections$AbstractImmutableList"), (0, .class_ 192), (0, u "java/util/ImmutableCollections$AbstractImmutableCollection"), (0, .class_ 194), (0, u "java/util/ImmutableCollections$Access"), (0, .class_ 196), (0, u "java/util/ImmutableCollections$Access$1")] 16

def k21m0 : Method := { name := "<init>", desc := "()V", sig := { parameters := [], returnType := none }, accessFlags := 2, code := none }
def k21c1 : Code := { maxStack := 1, maxLocals := 2, code := jdk_56_method_3_code, exceptionTable := #[], attributes := #[] }
def k21m1 : Method := { name := "listCopy", desc := "(Ljava/util/Collection;)Ljava/util/List;", sig := { parameters := [(.object "java/util/Collection")], returnType := some (.object "java/util/List") }, accessFlags := 8, code := some k21c1 }
/-- java/util/ImmutableCollections -/
def k21 : Class := { plain "java/util/ImmutableCollections" (some 0) with
  accessFlags := 32
  interfaces := #[]
  cf := some (fileOf pool21 47 #[.nestMembers #[120, 169, 171, 173, 175, 111, 177, 179, 181, 183, 12, 10, 185, 187, 189, 191, 193, 195]] #[{ accessFlags := 2, nameIndex := 5, descriptorIndex := 6, attributes := #[] }, { accessFlags := 8, nameIndex := 142, descriptorIndex := 143, attributes := #[] }] 32 2 #[] #[{ accessFlags := 26, nameIndex := 95, descriptorIndex := 96, attributes := #[] }, { accessFlags := 26, nameIndex := 99, descriptorIndex := 17, attributes := #[] }, { accessFlags := 10, nameIndex := 106, descriptorIndex := 56, attributes := #[] }, { accessFlags := 26, nameIndex := 109, descriptorIndex := 110, attributes := #[] }, { accessFlags := 24, nameIndex := 62, descriptorIndex := 63, attributes := #[] }, { accessFlags := 24, nameIndex := 72, descriptorIndex := 63, attributes := #[] }, { accessFlags := 24, nameIndex := 118, descriptorIndex := 119, attributes := #[] }, { accessFlags := 24, nameIndex := 125, descriptorIndex := 126, attributes := #[] }, { accessFlags := 24, nameIndex := 131, descriptorIndex := 132, attributes := #[] }, { accessFlags := 4120, nameIndex := 50, descriptorIndex := 17, attributes := #[] }])
  fields := #[{ name := "SALT32L", type := .long, accessFlags := 26, slot := 0, constantValue := 0 }, { name := "REVERSE", type := .boolean, accessFlags := 26, slot := 1, constantValue := 0 }, { name := "archivedObjects", type := (.array (.object "java/lang/Object")), accessFlags := 10, slot := 2, constantValue := 0 }, { name := "EMPTY", type := (.object "java/lang/Object"), accessFlags := 26, slot := 3, constantValue := 0 }, { name := "EMPTY_LIST", type := (.object "java/util/ImmutableCollections$ListN"), accessFlags := 24, slot := 4, constantValue := 0 }, { name := "EMPTY_LIST_NULLS", type := (.object "java/util/ImmutableCollections$ListN"), accessFlags := 24, slot := 5, constantValue := 0 }, { name := "EMPTY_SET", type := (.object "java/util/ImmutableCollections$SetN"), accessFlags := 24, slot := 6, constantValue := 0 }, { name := "EMPTY_MAP", type := (.object "java/util/ImmutableCollections$MapN"), accessFlags := 24, slot := 7, constantValue := 0 }, { name := "EXPAND_FACTOR", type := .int, accessFlags := 24, slot := 8, constantValue := 0 }, { name := "$assertionsDisabled", type := .boolean, accessFlags := 4120, slot := 9, constantValue := 0 }]
  methods := #[k21m0, k21m1]
  instanceTypes := #[]
  staticTypes := #[.long, .boolean, (.array (.object "java/lang/Object")), (.object "java/lang/Object"), (.object "java/util/ImmutableCollections$ListN"), (.object "java/util/ImmutableCollections$ListN"), (.object "java/util/ImmutableCollections$SetN"), (.object "java/util/ImmutableCollections$MapN"), .int, .boolean]
  resolved := Array.replicate 213 none
  statics := some 1 }

def pool22 : Array CpInfo := pool [(1, .methodref 2 3), (0, .class_ 4), (0, .nameAndType 5 6), (0, u "java/util/AbstractCollection"), (0, u "<init>"), (0, u "()V"), (1, .class_ 10), (1, u "java/util/ImmutableCollections"), (2, .class_ 14), (0, u "java/util/ImmutableCollections$AbstractImmutableCollection")] 41

def k22c0 : Code := { maxStack := 1, maxLocals := 1, code := jdk_47_method_1_code, exceptionTable := #[], attributes := #[] }
def k22m0 : Method := { name := "<init>", desc := "()V", sig := { parameters := [], returnType := none }, accessFlags := 0, code := some k22c0 }
/-- java/util/ImmutableCollections$AbstractImmutableCollection -/
def k22 : Class := { plain "java/util/ImmutableCollections$AbstractImmutableCollection" (some 4) with
  accessFlags := 1056
  interfaces := #[]
  cf := some (fileOf pool22 13 #[.nestHost 8] #[{ accessFlags := 0, nameIndex := 5, descriptorIndex := 6, attributes := #[] }] 1056 2 #[] #[])
  fields := #[]
  methods := #[k22m0]
  instanceTypes := #[]
  staticTypes := #[]
  resolved := Array.replicate 56 none
  statics := none }

def pool23 : Array CpInfo := pool [(1, .methodref 2 3), (0, .class_ 4), (0, .nameAndType 5 6), (0, u "java/util/ImmutableCollections$AbstractImmutableCollection"), (0, u "<init>"), (0, u "()V"), (1, .class_ 10), (1, u "java/util/ImmutableCollections"), (2, .methodref 14 15), (0, .class_ 16), (0, .nameAndType 17 18), (0, u "java/util/ImmutableCollections$AbstractImmutableList"), (0, u "size"), (0, u "()I"), (42, .class_ 62), (0, u "java/util/ImmutableCollections$ListItr"), (0, .methodref 61 64), (0, .nameAndType 5 65), (0, u "(Ljava/util/List;I)V"), (11, .class_ 78), (0, u "java/util/List"), (2, u "iterator"), (0, u "()Ljava/util/Iterator;"), (41, .class_ 125), (0, u "java/util/RandomAccess")] 70

def k23c0 : Code := { maxStack := 1, maxLocals := 1, code := jdk_46_method_1_code, exceptionTable := #[], attributes := #[] }
def k23m0 : Method := { name := "<init>", desc := "()V", sig := { parameters := [], returnType := none }, accessFlags := 0, code := some k23c0 }
def k23c1 : Code := { maxStack := 4, maxLocals := 1, code := jdk_46_method_10_code, exceptionTable := #[], attributes := #[] }
def k23m1 : Method := { name := "iterator", desc := "()Ljava/util/Iterator;", sig := { parameters := [], returnType := some (.object "java/util/Iterator") }, accessFlags := 1, code := some k23c1 }
/-- java/util/ImmutableCollections$AbstractImmutableList -/
def k23 : Class := { plain "java/util/ImmutableCollections$AbstractImmutableList" (some 22) with
  accessFlags := 1056
  interfaces := #[6, 8]
  cf := some (fileOf pool23 14 #[.nestHost 8] #[{ accessFlags := 0, nameIndex := 5, descriptorIndex := 6, attributes := #[] }, { accessFlags := 1, nameIndex := 81, descriptorIndex := 82, attributes := #[] }] 1056 2 #[77, 124] #[])
  fields := #[]
  methods := #[k23m0, k23m1]
  instanceTypes := #[]
  staticTypes := #[]
  resolved := Array.replicate 196 none
  statics := none }

def pool24 : Array CpInfo := pool [(1, .methodref 2 3), (0, .class_ 4), (0, .nameAndType 5 6), (0, u "java/util/ImmutableCollections$AbstractImmutableList"), (0, u "<init>"), (0, u "()V"), (0, .methodref 8 9), (0, .class_ 10), (0, .nameAndType 11 12), (0, u "java/util/Objects"), (0, u "requireNonNull"), (0, u "(Ljava/lang/Object;)Ljava/lang/Object;"), (0, .fieldref 14 15), (0, .class_ 16), (0, .nameAndType 17 18), (0, u "java/util/ImmutableCollections$List12"), (0, u "e0"), (0, u "Ljava/lang/Object;"), (0, .fieldref 20 21), (0, .class_ 22), (0, .nameAndType 23 18), (0, u "java/util/ImmutableCollections"), (0, u "EMPTY"), (0, .fieldref 14 25), (0, .nameAndType 26 18), (0, u "e1"), (24, u "size"), (0, u "()I"), (17, .class_ 71), (0, u "java/io/Serializable"), (13, u "(Ljava/lang/Object;Ljava/lang/Object;)V"), (4, u "get"), (0, u "(I)Ljava/lang/Object;")] 33

def k24c0 : Code := { maxStack := 2, maxLocals := 3, code := jdk_44_method_2_code, exceptionTable := #[], attributes := #[] }
def k24m0 : Method := { name := "<init>", desc := "(Ljava/lang/Object;Ljava/lang/Object;)V", sig := { parameters := [(.object "java/lang/Object"), (.object "java/lang/Object")], returnType := none }, accessFlags := 0, code := some k24c0 }
def k24c1 : Code := { maxStack := 2, maxLocals := 1, code := jdk_44_method_3_code, exceptionTable := #[], attributes := #[] }
def k24m1 : Method := { name := "size", desc := "()I", sig := { parameters := [], returnType := some .int }, accessFlags := 1, code := some k24c1 }
def k24c2 : Code := { maxStack := 2, maxLocals := 2, code := jdk_44_method_5_code, exceptionTable := #[], attributes := #[] }
def k24m2 : Method := { name := "get", desc := "(I)Ljava/lang/Object;", sig := { parameters := [.int], returnType := some (.object "java/lang/Object") }, accessFlags := 1, code := some k24c2 }
/-- java/util/ImmutableCollections$List12 -/
def k24 : Class := { plain "java/util/ImmutableCollections$List12" (some 23) with
  accessFlags := 48
  interfaces := #[10]
  cf := some (fileOf pool24 14 #[.nestHost 20] #[{ accessFlags := 0, nameIndex := 5, descriptorIndex := 85, attributes := #[] }, { accessFlags := 1, nameIndex := 51, descriptorIndex := 52, attributes := #[] }, { accessFlags := 1, nameIndex := 90, descriptorIndex := 91, attributes := #[] }] 48 2 #[70] #[{ accessFlags := 18, nameIndex := 17, descriptorIndex := 18, attributes := #[] }, { accessFlags := 18, nameIndex := 26, descriptorIndex := 18, attributes := #[] }])
  fields := #[{ name := "e0", type := (.object "java/lang/Object"), accessFlags := 18, slot := 0, constantValue := 0 }, { name := "e1", type := (.object "java/lang/Object"), accessFlags := 18, slot := 1, constantValue := 0 }]
  methods := #[k24m0, k24m1, k24m2]
  instanceTypes := #[(.object "java/lang/Object"), (.object "java/lang/Object")]
  staticTypes := #[]
  resolved := Array.replicate 125 none
  statics := none }

def pool25 : Array CpInfo := pool [(2, .class_ 4), (1, u "java/util/ImmutableCollections$AbstractImmutableList"), (2, .fieldref 8 9), (0, .class_ 10), (0, .nameAndType 11 12), (0, u "java/util/ImmutableCollections$ListN"), (0, u "elements"), (0, u "[Ljava/lang/Object;"), (2, u "allowNulls"), (0, u "Z"), (42, .class_ 60), (0, u "java/io/Serializable"), (16, u "size"), (0, u "()I"), (35, .class_ 115), (0, u "java/util/ImmutableCollections")] 3

def k25c0 : Code := { maxStack := 1, maxLocals := 1, code := jdk_45_method_3_code, exceptionTable := #[], attributes := #[] }
def k25m0 : Method := { name := "size", desc := "()I", sig := { parameters := [], returnType := some .int }, accessFlags := 1, code := some k25c0 }
/-- java/util/ImmutableCollections$ListN -/
def k25 : Class := { plain "java/util/ImmutableCollections$ListN" (some 23) with
  accessFlags := 48
  interfaces := #[10]
  cf := some (fileOf pool25 8 #[.nestHost 114] #[{ accessFlags := 1, nameIndex := 77, descriptorIndex := 78, attributes := #[] }] 48 2 #[59] #[{ accessFlags := 18, nameIndex := 11, descriptorIndex := 12, attributes := #[] }, { accessFlags := 18, nameIndex := 15, descriptorIndex := 16, attributes := #[] }])
  fields := #[{ name := "elements", type := (.array (.object "java/lang/Object")), accessFlags := 18, slot := 0, constantValue := 0 }, { name := "allowNulls", type := .boolean, accessFlags := 18, slot := 1, constantValue := 0 }]
  methods := #[k25m0]
  instanceTypes := #[(.array (.object "java/lang/Object")), .boolean]
  staticTypes := #[]
  resolved := Array.replicate 119 none
  statics := none }

def pool26 : Array CpInfo := pool [(2, .class_ 4), (1, u "java/lang/Object"), (0, u "<init>"), (0, u "()V"), (7, .class_ 16), (1, u "java/util/Arrays"), (57, .class_ 76), (1, u "java/util/Arrays$NaturalOrder"), (9, .methodref 2 87), (0, .nameAndType 88 89), (0, u "getClass"), (0, u "()Ljava/lang/Class;"), (20, .class_ 111), (0, u "[Ljava/lang/Object;"), (1, .class_ 115), (1, u "java/util/Arrays$LegacyMergeSort"), (1, u "Z"), (32, .methodref 151 152), (0, .class_ 153), (0, .nameAndType 154 155), (0, u "java/lang/System"), (0, u "arraycopy"), (0, u "(Ljava/lang/Object;ILjava/lang/Object;II)V"), (144, .methodref 14 301), (0, .nameAndType 302 303), (0, u "copyOf"), (0, u "([Ljava/lang/Object;ILjava/lang/Class;)[Ljava/lang/Object;"), (0, .methodref 305 306), (0, .class_ 307), (0, .nameAndType 308 309), (0, u "java/lang/Math"), (0, u "min"), (0, u "(II)I"), (65, .class_ 376), (0, u "java/util/Arrays$ArrayList"), (68, u "$assertionsDisabled"), (269, u "MIN_ARRAY_SORT_GRAN"), (0, u "I"), (2, u "INSERTIONSORT_THRESHOLD"), (140, u "([Ljava/lang/Object;I)[Ljava/lang/Object;"), (114, .class_ 976), (0, u "java/util/Arrays$ArrayItr")] 52

def k26m0 : Method := { name := "<init>", desc := "()V", sig := { parameters := [], returnType := none }, accessFlags := 2, code := none }
def k26c1 : Code := { maxStack := 3, maxLocals := 2, code := jdk_65_method_119_code, exceptionTable := #[], attributes := #[] }
def k26m1 : Method := { name := "copyOf", desc := "([Ljava/lang/Object;I)[Ljava/lang/Object;", sig := { parameters := [(.array (.object "java/lang/Object")), .int], returnType := some (.array (.object "java/lang/Object")) }, accessFlags := 9, code := some k26c1 }
def k26c2 : Code := { maxStack := 6, maxLocals := 4, code := jdk_65_method_120_code, exceptionTable := #[], attributes := #[] }
def k26m2 : Method := { name := "copyOf", desc := "([Ljava/lang/Object;ILjava/lang/Class;)[Ljava/lang/Object;", sig := { parameters := [(.array (.object "java/lang/Object")), .int, (.object "java/lang/Class")], returnType := some (.array (.object "java/lang/Object")) }, accessFlags := 9, code := some k26c2 }
/-- java/util/Arrays -/
def k26 : Class := { plain "java/util/Arrays" (some 0) with
  accessFlags := 49
  interfaces := #[]
  cf := some (fileOf pool26 14 #[.nestMembers #[975, 375, 113, 74]] #[{ accessFlags := 2, nameIndex := 5, descriptorIndex := 6, attributes := #[] }, { accessFlags := 9, nameIndex := 302, descriptorIndex := 860, attributes := #[] }, { accessFlags := 9, nameIndex := 302, descriptorIndex := 303, attributes := #[] }] 49 2 #[] #[{ accessFlags := 26, nameIndex := 715, descriptorIndex := 716, attributes := #[] }, { accessFlags := 26, nameIndex := 719, descriptorIndex := 716, attributes := #[] }, { accessFlags := 4120, nameIndex := 445, descriptorIndex := 117, attributes := #[] }])
  fields := #[{ name := "MIN_ARRAY_SORT_GRAN", type := .int, accessFlags := 26, slot := 0, constantValue := 0 }, { name := "INSERTIONSORT_THRESHOLD", type := .int, accessFlags := 26, slot := 1, constantValue := 0 }, { name := "$assertionsDisabled", type := .boolean, accessFlags := 4120, slot := 2, constantValue := 0 }]
  methods := #[k26m0, k26m1, k26m2]
  instanceTypes := #[]
  staticTypes := #[.int, .int, .boolean]
  resolved := Array.replicate 1029 none
  statics := none }

def pool27 : Array CpInfo := pool [(2, .class_ 4), (1, u "java/lang/Object"), (0, u "<init>"), (0, u "()V"), (1, .class_ 10), (1, u "java/lang/System"), (0, u "allowSecurityManager"), (0, u "I"), (16, u "cons"), (0, u "Ljava/io/Console;"), (77, .class_ 110), (1, u "java/lang/System$CallersHolder"), (43, u "initialErrStream"), (0, u "Ljava/io/PrintStream;"), (19, u "security"), (0, u "Ljava/lang/SecurityManager;"), (31, .class_ 209), (0, u "java/lang/System$1"), (7, u "props"), (0, u "Ljava/util/Properties;"), (2, u "lineSeparator"), (0, u "Ljava/lang/String;"), (96, .class_ 321), (1, u "java/lang/System$LoggerFinder"), (5, .class_ 328), (0, u "java/lang/System$Logger"), (67, u "err"), (2, u "out"), (91, u "notSupportedJnuEncoding"), (15, u "in"), (17, u "initialIn"), (0, u "Ljava/io/InputStream;"), (35, u "bootLayer"), (0, u "Ljava/lang/ModuleLayer;"), (99, .class_ 664), (0, u "java/lang/System$2"), (9, u "NEVER"), (2, u "MAYBE"), (49, u "arraycopy"), (0, u "(Ljava/lang/Object;ILjava/lang/Object;II)V"), (72, .class_ 802), (0, u "java/lang/System$Logger$Level")] 31

def k27m0 : Method := { name := "<init>", desc := "()V", sig := { parameters := [], returnType := none }, accessFlags := 2, code := none }
def k27m1 : Method := { name := "arraycopy", desc := "(Ljava/lang/Object;ILjava/lang/Object;II)V", sig := { parameters := [(.object "java/lang/Object"), .int, (.object "java/lang/Object"), .int, .int], returnType := none }, accessFlags := 265, code := none }
/-- java/lang/System -/
def k27 : Class := { plain "java/lang/System" (some 0) with
  accessFlags := 49
  interfaces := #[]
  cf := some (fileOf pool27 8 #[.nestMembers #[319, 327, 801, 108, 663, 208]] #[{ accessFlags := 2, nameIndex := 5, descriptorIndex := 6, attributes := #[] }, { accessFlags := 265, nameIndex := 727, descriptorIndex := 728, attributes := #[] }] 49 2 #[] #[{ accessFlags := 25, nameIndex := 507, descriptorIndex := 526, attributes := #[] }, { accessFlags := 25, nameIndex := 399, descriptorIndex := 155, attributes := #[] }, { accessFlags := 25, nameIndex := 396, descriptorIndex := 155, attributes := #[] }, { accessFlags := 10, nameIndex := 525, descriptorIndex := 526, attributes := #[] }, { accessFlags := 26, nameIndex := 674, descriptorIndex := 12, attributes := #[] }, { accessFlags := 26, nameIndex := 677, descriptorIndex := 12, attributes := #[] }, { accessFlags := 10, nameIndex := 11, descriptorIndex := 12, attributes := #[] }, { accessFlags := 74, nameIndex := 175, descriptorIndex := 176, attributes := #[] }, { accessFlags := 10, nameIndex := 491, descriptorIndex := 222, attributes := #[] }, { accessFlags := 74, nameIndex := 29, descriptorIndex := 30, attributes := #[] }, { accessFlags := 74, nameIndex := 154, descriptorIndex := 155, attributes := #[] }, { accessFlags := 10, nameIndex := 217, descriptorIndex := 218, attributes := #[] }, { accessFlags := 10, nameIndex := 221, descriptorIndex := 222, attributes := #[] }, { accessFlags := 8, nameIndex := 562, descriptorIndex := 563, attributes := #[] }])
  fields := #[{ name := "in", type := (.object "java/io/InputStream"), accessFlags := 25, slot := 0, constantValue := 0 }, { name := "out", type := (.object "java/io/PrintStream"), accessFlags := 25, slot := 1, constantValue := 0 }, { name := "err", type := (.object "java/io/PrintStream"), accessFlags := 25, slot := 2, constantValue := 0 }, { name := "initialIn", type := (.object "java/io/InputStream"), accessFlags := 10, slot := 3, constantValue := 0 }, { name := "NEVER", type := .int, accessFlags := 26, slot := 4, constantValue := 0 }, { name := "MAYBE", type := .int, accessFlags := 26, slot := 5, constantValue := 0 }, { name := "allowSecurityManager", type := .int, accessFlags := 10, slot := 6, constantValue := 0 }, { name := "security", type := (.object "java/lang/SecurityManager"), accessFlags := 74, slot := 7, constantValue := 0 }, { name := "notSupportedJnuEncoding", type := (.object "java/lang/String"), accessFlags := 10, slot := 8, constantValue := 0 }, { name := "cons", type := (.object "java/io/Console"), accessFlags := 74, slot := 9, constantValue := 0 }, { name := "initialErrStream", type := (.object "java/io/PrintStream"), accessFlags := 74, slot := 10, constantValue := 0 }, { name := "props", type := (.object "java/util/Properties"), accessFlags := 10, slot := 11, constantValue := 0 }, { name := "lineSeparator", type := (.object "java/lang/String"), accessFlags := 10, slot := 12, constantValue := 0 }, { name := "bootLayer", type := (.object "java/lang/ModuleLayer"), accessFlags := 8, slot := 13, constantValue := 0 }]
  methods := #[k27m0, k27m1]
  instanceTypes := #[]
  staticTypes := #[(.object "java/io/InputStream"), (.object "java/io/PrintStream"), (.object "java/io/PrintStream"), (.object "java/io/InputStream"), .int, .int, .int, (.object "java/lang/SecurityManager"), (.object "java/lang/String"), (.object "java/io/Console"), (.object "java/io/PrintStream"), (.object "java/util/Properties"), (.object "java/lang/String"), (.object "java/lang/ModuleLayer")]
  resolved := Array.replicate 834 none
  statics := none }

def pool28 : Array CpInfo := pool [(2, .class_ 4), (1, u "java/lang/Object"), (0, u "<init>"), (0, u "()V"), (35, .class_ 44), (1, u "java/util/Objects"), (0, u "requireNonNull"), (0, u "(Ljava/lang/Object;)Ljava/lang/Object;")] 137

def k28m0 : Method := { name := "<init>", desc := "()V", sig := { parameters := [], returnType := none }, accessFlags := 2, code := none }
def k28c1 : Code := { maxStack := 2, maxLocals := 1, code := jdk_31_method_10_code, exceptionTable := #[], attributes := #[] }
def k28m1 : Method := { name := "requireNonNull", desc := "(Ljava/lang/Object;)Ljava/lang/Object;", sig := { parameters := [(.object "java/lang/Object")], returnType := some (.object "java/lang/Object") }, accessFlags := 9, code := some k28c1 }
/-- java/util/Objects -/
def k28 : Class := { plain "java/util/Objects" (some 0) with
  accessFlags := 49
  interfaces := #[]
  cf := some (fileOf pool28 42 #[] #[{ accessFlags := 2, nameIndex := 5, descriptorIndex := 6, attributes := #[] }, { accessFlags := 9, nameIndex := 45, descriptorIndex := 46, attributes := #[] }] 49 2 #[] #[])
  fields := #[]
  methods := #[k28m0, k28m1]
  instanceTypes := #[]
  staticTypes := #[]
  resolved := Array.replicate 184 none
  statics := none }

def pool29 : Array CpInfo := pool [(16, .class_ 18), (1, u "java/util/Iterator"), (0, u "hasNext"), (0, u "()Z"), (10, .class_ 32), (0, u "java/lang/Object")] 20

def k29m0 : Method := { name := "hasNext", desc := "()Z", sig := { parameters := [], returnType := some .boolean }, accessFlags := 1025, code := none }
/-- java/util/Iterator -/
def k29 : Class := { plain "java/util/Iterator" (some 0) with
  accessFlags := 1537
  interfaces := #[]
  cf := some (fileOf pool29 16 #[] #[{ accessFlags := 1025, nameIndex := 19, descriptorIndex := 20, attributes := #[] }] 1537 31 #[] #[])
  fields := #[]
  methods := #[k29m0]
  instanceTypes := #[]
  staticTypes := #[]
  resolved := Array.replicate 53 none
  statics := none }

def pool30 : Array CpInfo := pool [(1, .class_ 2), (0, u "java/util/ListIterator"), (0, .class_ 4), (0, u "java/lang/Object"), (0, .class_ 6), (0, u "java/util/Iterator")] 20

/-- java/util/ListIterator -/
def k30 : Class := { plain "java/util/ListIterator" (some 0) with
  accessFlags := 1537
  interfaces := #[29]
  cf := some (fileOf pool30 1 #[] #[] 1537 3 #[5] #[])
  fields := #[]
  methods := #[]
  instanceTypes := #[]
  staticTypes := #[]
  resolved := Array.replicate 27 none
  statics := none }

def pool31 : Array CpInfo := pool [(1, .methodref 2 3), (0, .class_ 4), (0, .nameAndType 5 6), (0, u "java/lang/Object"), (0, u "<init>"), (0, u "()V"), (0, .fieldref 8 9), (0, .class_ 10), (0, .nameAndType 11 12), (0, u "java/util/ImmutableCollections$ListItr"), (0, u "list"), (0, u "Ljava/util/List;"), (0, .fieldref 8 14), (0, .nameAndType 15 16), (0, u "size"), (0, u "I"), (0, .fieldref 8 18), (0, .nameAndType 19 16), (0, u "cursor"), (0, .fieldref 8 21), (0, .nameAndType 22 23), (0, u "isListIterator"), (0, u "Z"), (12, .class_ 38), (1, u "java/util/ImmutableCollections"), (2, .class_ 42), (0, u "java/util/ListIterator"), (4, u "(Ljava/util/List;I)V"), (11, u "hasNext"), (0, u "()Z")] 25

def k31c0 : Code := { maxStack := 2, maxLocals := 3, code := jdk_53_method_1_code, exceptionTable := #[], attributes := #[] }
def k31m0 : Method := { name := "<init>", desc := "(Ljava/util/List;I)V", sig := { parameters := [(.object "java/util/List"), .int], returnType := none }, accessFlags := 0, code := some k31c0 }
def k31c1 : Code := { maxStack := 2, maxLocals := 1, code := jdk_53_method_3_code, exceptionTable := #[], attributes := #[] }
def k31m1 : Method := { name := "hasNext", desc := "()Z", sig := { parameters := [], returnType := some .boolean }, accessFlags := 1, code := some k31c1 }
/-- java/util/ImmutableCollections$ListItr -/
def k31 : Class := { plain "java/util/ImmutableCollections$ListItr" (some 0) with
  accessFlags := 48
  interfaces := #[30]
  cf := some (fileOf pool31 8 #[.nestHost 36] #[{ accessFlags := 0, nameIndex := 5, descriptorIndex := 47, attributes := #[] }, { accessFlags := 1, nameIndex := 59, descriptorIndex := 60, attributes := #[] }] 48 2 #[41] #[{ accessFlags := 18, nameIndex := 11, descriptorIndex := 12, attributes := #[] }, { accessFlags := 18, nameIndex := 15, descriptorIndex := 16, attributes := #[] }, { accessFlags := 18, nameIndex := 22, descriptorIndex := 23, attributes := #[] }, { accessFlags := 2, nameIndex := 19, descriptorIndex := 16, attributes := #[] }])
  fields := #[{ name := "list", type := (.object "java/util/List"), accessFlags := 18, slot := 0, constantValue := 0 }, { name := "size", type := .int, accessFlags := 18, slot := 1, constantValue := 0 }, { name := "isListIterator", type := .boolean, accessFlags := 18, slot := 2, constantValue := 0 }, { name := "cursor", type := .int, accessFlags := 2, slot := 3, constantValue := 0 }]
  methods := #[k31m0, k31m1]
  instanceTypes := #[(.object "java/util/List"), .int, .boolean, .int]
  staticTypes := #[]
  resolved := Array.replicate 86 none
  statics := none }

def pool32 : Array CpInfo := pool [(1, u "java/lang/Class"), (0, .class_ 1), (0, u "java/lang/Object"), (0, .class_ 3)] 0

/-- java/lang/Class -/
def k32 : Class := { plain "java/lang/Class" (some 0) with
  accessFlags := 49
  interfaces := #[]
  cf := some (fileOf pool32 2 #[] #[] 49 4 #[] #[])
  fields := #[]
  methods := #[]
  instanceTypes := #[]
  staticTypes := #[]
  resolved := Array.replicate 5 none
  statics := none }

/-- the primitive boolean -/
def k33 : Class := { plain "boolean" none with kind := .primitive 'Z', accessFlags := 0x411 }
/-- [Z -/
def k34 : Class := { plain "[Z" (some 0) with kind := .array 33 .boolean, interfaces := #[9, 10], accessFlags := 1041 }

/-- the primitive byte -/
def k35 : Class := { plain "byte" none with kind := .primitive 'B', accessFlags := 0x411 }
/-- [B -/
def k36 : Class := { plain "[B" (some 0) with kind := .array 35 .byte, interfaces := #[9, 10], accessFlags := 1041 }

/-- the primitive int -/
def k37 : Class := { plain "int" none with kind := .primitive 'I', accessFlags := 0x411 }
/-- [I -/
def k38 : Class := { plain "[I" (some 0) with kind := .array 37 .int, interfaces := #[9, 10], accessFlags := 1041 }

/-- the primitive long -/
def k39 : Class := { plain "long" none with kind := .primitive 'J', accessFlags := 0x411 }
/-- [J -/
def k40 : Class := { plain "[J" (some 0) with kind := .array 39 .long, interfaces := #[9, 10], accessFlags := 1041 }

/-- [Ljava/lang/Object; -/
def k41 : Class := { plain "[Ljava/lang/Object;" (some 0) with mirror := some 2, kind := .array 0 (.object "java/lang/Object"), interfaces := #[9, 10], accessFlags := 1041 }

/-- [[J -/
def k42 : Class := { plain "[[J" (some 0) with kind := .array 40 (.array .long), interfaces := #[9, 10], accessFlags := 1041 }

def heap : Heap := #[{ cls := 11, slots := #[.long 0, .int 0, .ref 3, .ref 4], vm := .statics 11 },
  { cls := 21, slots := #[.long 0, .int 0, .null, .ref 6, .ref 5, .null, .null, .null, .int 0, .int 1], vm := .statics 21 },
  { cls := 32, slots := #[], vm := .mirror 41 },
  { cls := 41, slots := #[], vm := .none },
  { cls := 41, slots := #[], vm := .none },
  { cls := 25, slots := #[.ref 7, .int 0], vm := .none },
  { cls := 0, slots := #[], vm := .none },
  { cls := 41, slots := #[], vm := .none }]
def classes : Array Class := #[k0, k1, k2, k3, k4, k5, k6, k7, k8, k9, k10, k11, k12, k13, k14, k15, k16, k17, k18, k19, k20, k21, k22, k23, k24, k25, k26, k27, k28, k29, k30, k31, k32, k33, k34, k35, k36, k37, k38, k39, k40, k41, k42]
def interned : List (Array UInt16 × Addr) := []
def slotsUsed : Nat := 16
def theMethod : MethodId := ⟨1, 1⟩
def args0 : Array Value := #[.int 5, .int 3, .int 1]
def aboutOver (below : List Frame) : State where
  vm := { classes := classes, interned := interned.toArray }
  heap := heap
  slotsUsed := slotsUsed
  threads := #[{ frames := .invoking theMethod args0 :: below }]
def below0 : List Frame := [.native { method := ⟨0, 0⟩, args := #[] }]
def about1 : State := aboutOver below0
def p0 : Program := .bare "" "" ""
def e0 : Env := launch0.env 0 0 0
theorem w_frames : about1.frames = Frame.invoking theMethod args0 :: below0 := rfl
set_option maxRecDepth 65536 in
theorem w_args : argsFit about1.vm theMethod args0 = true := by decide +kernel
set_option maxRecDepth 65536 in
theorem w_heap : heapFits about1 = true := by decide +kernel
set_option maxRecDepth 65536 in
theorem w_runnable : about1.curStatus? = some .runnable := by decide +kernel
set_option maxRecDepth 65536 in
theorem w_alone : about1.alone = true := by decide +kernel
set_option maxRecDepth 65536 in
theorem w_named : about1.methodNamed? x = some theMethod := by decide +kernel
set_option maxRecDepth 65536 in
theorem w_hears : about1.hears theMethod below0 = true := by decide +kernel
set_option maxRecDepth 65536 in
theorem w_ripe : about1.ripe theMethod args0 below0 = true := by decide +kernel
theorem w_running : about1.status = .running := rfl
set_option maxRecDepth 65536 in
theorem w_room : about1.hasRoom e0.platform room_1 = true :=
  launch0.hasRoom_least _ room_1 (by decide +kernel) (by decide +kernel) (by decide +kernel) (by decide +kernel) (by decide +kernel) (by decide +kernel)
theorem allAtoms_all (ts : List Jvm.Cond) (a : Array Jvm.Value) (st : Jvm.State) : (allAtoms ts).before a st = ts.all (fun c => c.before a st) := by
  induction ts with
  | nil => rfl
  | cons c t ih =>
    show (Jvm.Cond.and c (allAtoms t)).before a st = _
    rw [Jvm.Cond.before_and, ih, List.all_cons]
def words1 : List Jvm.Cond := Jvm.Cond.code x code maxLocals ret :: tables_1
/-- a 'code' word, met by the world's own term for the bytes: nothing is compared byte by byte -/
theorem code_word {y : MethodName} {bytes : ByteArray} {mx : Nat} {rt : Option FieldType} {a : Array Value} {s : State} {m : MethodId} {meth : Method} {c : Code} (h1 : s.methodNamed? y = some m) (h2 : s.vm.method? m = some meth) (h3 : meth.code = some c) (h4 : c.code = bytes)
    (h5 : (c.maxLocals == mx && c.exceptionTable.isEmpty && decide (c.maxStack ≤ mostOperands) && decide (meth.sig.returnType = rt) && !meth.locks && decide (parseMethodDescriptor y.desc = some meth.sig)) = true) : (Jvm.Cond.code y bytes mx rt).before a s = true := by
  simp only [Bool.and_eq_true, beq_iff_eq, Bool.not_eq_true', decide_eq_true_eq] at h5
  obtain ⟨⟨⟨⟨⟨g1, g2⟩, g3⟩, g4⟩, g5⟩, g6⟩ := h5
  simp [Cond.before, Cond.holds, Cond.value, h1, h2, h3, h4, g1, g2, g3, g4, g5, g6]
def isCode : Jvm.Cond → Bool
  | .code _ _ _ _ => true
  | _ => false
theorem all_split {L : List Jvm.Cond} {P : Jvm.Cond → Bool} (h1 : L.all (fun c => isCode c || P c) = true) (h2 : ∀ c ∈ L.filter isCode, P c = true) : L.all P = true := by
  refine List.all_eq_true.mpr fun c hc => ?_
  have h := List.all_eq_true.mp h1 c hc
  rcases Bool.eq_false_or_eq_true (isCode c) with hi | hi
  · exact h2 c (List.mem_filter.mpr ⟨hc, hi⟩)
  · simpa [hi] using h
set_option maxRecDepth 65536 in
theorem w_c0 : (Jvm.Cond.code x code maxLocals ret).before args0 about1 = true := code_word (m := ⟨1, 1⟩) (meth := k1m1) (c := k1c1) (by decide +kernel) rfl rfl rfl (by decide +kernel)
set_option maxRecDepth 65536 in
theorem w_c1 : (Jvm.Cond.code ({ cls := "java/util/ArrayList", name := "<init>", desc := "()V" } : Jvm.MethodName) jdk_38_method_2_code (1 : Nat) (Option.none : Option Jvm.ClassFile.FieldType)).before args0 about1 = true := code_word (m := ⟨11, 0⟩) (meth := k11m0) (c := k11c0) (by decide +kernel) rfl rfl rfl (by decide +kernel)
set_option maxRecDepth 65536 in
theorem w_c2 : (Jvm.Cond.code ({ cls := "java/util/AbstractList", name := "<init>", desc := "()V" } : Jvm.MethodName) jdk_39_method_1_code (1 : Nat) (Option.none : Option Jvm.ClassFile.FieldType)).before args0 about1 = true := code_word (m := ⟨7, 0⟩) (meth := k7m0) (c := k7c0) (by decide +kernel) rfl rfl rfl (by decide +kernel)
set_option maxRecDepth 65536 in
theorem w_c3 : (Jvm.Cond.code ({ cls := "java/util/AbstractCollection", name := "<init>", desc := "()V" } : Jvm.MethodName) jdk_22_method_1_code (1 : Nat) (Option.none : Option Jvm.ClassFile.FieldType)).before args0 about1 = true := code_word (m := ⟨4, 0⟩) (meth := k4m0) (c := k4c0) (by decide +kernel) rfl rfl rfl (by decide +kernel)
set_option maxRecDepth 65536 in
theorem w_c4 : (Jvm.Cond.code ({ cls := "java/lang/Object", name := "<init>", desc := "()V" } : Jvm.MethodName) object_method_1_code (1 : Nat) (Option.none : Option Jvm.ClassFile.FieldType)).before args0 about1 = true := code_word (m := ⟨0, 0⟩) (meth := k0m0) (c := k0c0) (by decide +kernel) rfl rfl rfl (by decide +kernel)
set_option maxRecDepth 65536 in
theorem w_c5 : (Jvm.Cond.code ({ cls := "com/example/arcward/arcward/model/Variable", name := "<init>", desc := "(Ljava/lang/String;I[I)V" } : Jvm.MethodName) prog_43_method_1_code (5 : Nat) (Option.none : Option Jvm.ClassFile.FieldType)).before args0 about1 = true := code_word (m := ⟨12, 0⟩) (meth := k12m0) (c := k12c0) (by decide +kernel) rfl rfl rfl (by decide +kernel)
set_option maxRecDepth 65536 in
theorem w_c6 : (Jvm.Cond.code ({ cls := "java/util/ArrayList", name := "add", desc := "(Ljava/lang/Object;)Z" } : Jvm.MethodName) jdk_38_method_25_code (2 : Nat) (Option.some Jvm.ClassFile.FieldType.boolean)).before args0 about1 = true := code_word (m := ⟨11, 6⟩) (meth := k11m6) (c := k11c6) (by decide +kernel) rfl rfl rfl (by decide +kernel)
set_option maxRecDepth 65536 in
theorem w_c7 : (Jvm.Cond.code ({ cls := "java/util/ArrayList", name := "add", desc := "(Ljava/lang/Object;[Ljava/lang/Object;I)V" } : Jvm.MethodName) jdk_38_method_24_code (4 : Nat) (Option.none : Option Jvm.ClassFile.FieldType)).before args0 about1 = true := code_word (m := ⟨11, 5⟩) (meth := k11m5) (c := k11c5) (by decide +kernel) rfl rfl rfl (by decide +kernel)
set_option maxRecDepth 65536 in
theorem w_c8 : (Jvm.Cond.code ({ cls := "java/util/ArrayList", name := "grow", desc := "()[Ljava/lang/Object;" } : Jvm.MethodName) jdk_38_method_7_code (1 : Nat) (Option.some (Jvm.ClassFile.FieldType.array (Jvm.ClassFile.FieldType.object "java/lang/Object")))).before args0 about1 = true := code_word (m := ⟨11, 2⟩) (meth := k11m2) (c := k11c2) (by decide +kernel) rfl rfl rfl (by decide +kernel)
set_option maxRecDepth 65536 in
theorem w_c9 : (Jvm.Cond.code ({ cls := "java/util/ArrayList", name := "grow", desc := "(I)[Ljava/lang/Object;" } : Jvm.MethodName) jdk_38_method_6_code (4 : Nat) (Option.some (Jvm.ClassFile.FieldType.array (Jvm.ClassFile.FieldType.object "java/lang/Object")))).before args0 about1 = true := code_word (m := ⟨11, 1⟩) (meth := k11m1) (c := k11c1) (by decide +kernel) rfl rfl rfl (by decide +kernel)
set_option maxRecDepth 65536 in
theorem w_c10 : (Jvm.Cond.code ({ cls := "java/lang/Math", name := "max", desc := "(II)I" } : Jvm.MethodName) jdk_29_method_65_code (2 : Nat) (Option.some Jvm.ClassFile.FieldType.int)).before args0 about1 = true := code_word (m := ⟨18, 1⟩) (meth := k18m1) (c := k18c1) (by decide +kernel) rfl rfl rfl (by decide +kernel)
set_option maxRecDepth 65536 in
theorem w_c11 : (Jvm.Cond.code ({ cls := "com/example/arcward/arcward/model/Instance", name := "<init>", desc := "(Ljava/util/List;Ljava/util/List;)V" } : Jvm.MethodName) prog_11_method_1_code (7 : Nat) (Option.none : Option Jvm.ClassFile.FieldType)).before args0 about1 = true := code_word (m := ⟨20, 0⟩) (meth := k20m0) (c := k20c0) (by decide +kernel) rfl rfl rfl (by decide +kernel)
set_option maxRecDepth 65536 in
theorem w_c12 : (Jvm.Cond.code ({ cls := "java/util/List", name := "copyOf", desc := "(Ljava/util/Collection;)Ljava/util/List;" } : Jvm.MethodName) jdk_40_method_48_code (1 : Nat) (Option.some (Jvm.ClassFile.FieldType.object "java/util/List"))).before args0 about1 = true := code_word (m := ⟨6, 5⟩) (meth := k6m5) (c := k6c5) (by decide +kernel) rfl rfl rfl (by decide +kernel)
set_option maxRecDepth 65536 in
theorem w_c13 : (Jvm.Cond.code ({ cls := "java/util/ImmutableCollections", name := "listCopy", desc := "(Ljava/util/Collection;)Ljava/util/List;" } : Jvm.MethodName) jdk_56_method_3_code (2 : Nat) (Option.some (Jvm.ClassFile.FieldType.object "java/util/List"))).before args0 about1 = true := code_word (m := ⟨21, 1⟩) (meth := k21m1) (c := k21c1) (by decide +kernel) rfl rfl rfl (by decide +kernel)
set_option maxRecDepth 65536 in
theorem w_c14 : (Jvm.Cond.code ({ cls := "java/util/ArrayList", name := "isEmpty", desc := "()Z" } : Jvm.MethodName) jdk_38_method_9_code (1 : Nat) (Option.some Jvm.ClassFile.FieldType.boolean)).before args0 about1 = true := code_word (m := ⟨11, 3⟩) (meth := k11m3) (c := k11c3) (by decide +kernel) rfl rfl rfl (by decide +kernel)
set_option maxRecDepth 65536 in
theorem w_c15 : (Jvm.Cond.code ({ cls := "java/util/ArrayList", name := "toArray", desc := "()[Ljava/lang/Object;" } : Jvm.MethodName) jdk_38_method_16_code (1 : Nat) (Option.some (Jvm.ClassFile.FieldType.array (Jvm.ClassFile.FieldType.object "java/lang/Object")))).before args0 about1 = true := code_word (m := ⟨11, 4⟩) (meth := k11m4) (c := k11c4) (by decide +kernel) rfl rfl rfl (by decide +kernel)
set_option maxRecDepth 65536 in
theorem w_c16 : (Jvm.Cond.code ({ cls := "java/util/Arrays", name := "copyOf", desc := "([Ljava/lang/Object;I)[Ljava/lang/Object;" } : Jvm.MethodName) jdk_65_method_119_code (2 : Nat) (Option.some (Jvm.ClassFile.FieldType.array (Jvm.ClassFile.FieldType.object "java/lang/Object")))).before args0 about1 = true := code_word (m := ⟨26, 1⟩) (meth := k26m1) (c := k26c1) (by decide +kernel) rfl rfl rfl (by decide +kernel)
set_option maxRecDepth 65536 in
theorem w_c17 : (Jvm.Cond.code ({ cls := "java/util/Arrays", name := "copyOf", desc := "([Ljava/lang/Object;ILjava/lang/Class;)[Ljava/lang/Object;" } : Jvm.MethodName) jdk_65_method_120_code (4 : Nat) (Option.some (Jvm.ClassFile.FieldType.array (Jvm.ClassFile.FieldType.object "java/lang/Object")))).before args0 about1 = true := code_word (m := ⟨26, 2⟩) (meth := k26m2) (c := k26c2) (by decide +kernel) rfl rfl rfl (by decide +kernel)
set_option maxRecDepth 65536 in
theorem w_c18 : (Jvm.Cond.code ({ cls := "java/lang/Math", name := "min", desc := "(II)I" } : Jvm.MethodName) jdk_29_method_69_code (2 : Nat) (Option.some Jvm.ClassFile.FieldType.int)).before args0 about1 = true := code_word (m := ⟨18, 2⟩) (meth := k18m2) (c := k18c2) (by decide +kernel) rfl rfl rfl (by decide +kernel)
set_option maxRecDepth 65536 in
theorem w_c19 : (Jvm.Cond.code ({ cls := "java/util/List", name := "of", desc := "([Ljava/lang/Object;)Ljava/util/List;" } : Jvm.MethodName) jdk_40_method_47_code (2 : Nat) (Option.some (Jvm.ClassFile.FieldType.object "java/util/List"))).before args0 about1 = true := code_word (m := ⟨6, 4⟩) (meth := k6m4) (c := k6c4) (by decide +kernel) rfl rfl rfl (by decide +kernel)
set_option maxRecDepth 65536 in
theorem w_c20 : (Jvm.Cond.code ({ cls := "java/util/ImmutableCollections$List12", name := "<init>", desc := "(Ljava/lang/Object;Ljava/lang/Object;)V" } : Jvm.MethodName) jdk_44_method_2_code (3 : Nat) (Option.none : Option Jvm.ClassFile.FieldType)).before args0 about1 = true := code_word (m := ⟨24, 0⟩) (meth := k24m0) (c := k24c0) (by decide +kernel) rfl rfl rfl (by decide +kernel)
set_option maxRecDepth 65536 in
theorem w_c21 : (Jvm.Cond.code ({ cls := "java/util/ImmutableCollections$AbstractImmutableList", name := "<init>", desc := "()V" } : Jvm.MethodName) jdk_46_method_1_code (1 : Nat) (Option.none : Option Jvm.ClassFile.FieldType)).before args0 about1 = true := code_word (m := ⟨23, 0⟩) (meth := k23m0) (c := k23c0) (by decide +kernel) rfl rfl rfl (by decide +kernel)
set_option maxRecDepth 65536 in
theorem w_c22 : (Jvm.Cond.code ({ cls := "java/util/ImmutableCollections$AbstractImmutableCollection", name := "<init>", desc := "()V" } : Jvm.MethodName) jdk_47_method_1_code (1 : Nat) (Option.none : Option Jvm.ClassFile.FieldType)).before args0 about1 = true := code_word (m := ⟨22, 0⟩) (meth := k22m0) (c := k22c0) (by decide +kernel) rfl rfl rfl (by decide +kernel)
set_option maxRecDepth 65536 in
theorem w_c23 : (Jvm.Cond.code ({ cls := "java/util/Objects", name := "requireNonNull", desc := "(Ljava/lang/Object;)Ljava/lang/Object;" } : Jvm.MethodName) jdk_31_method_10_code (1 : Nat) (Option.some (Jvm.ClassFile.FieldType.object "java/lang/Object"))).before args0 about1 = true := code_word (m := ⟨28, 1⟩) (meth := k28m1) (c := k28c1) (by decide +kernel) rfl rfl rfl (by decide +kernel)
set_option maxRecDepth 65536 in
theorem w_c24 : (Jvm.Cond.code ({ cls := "java/util/List", name := "of", desc := "()Ljava/util/List;" } : Jvm.MethodName) jdk_40_method_36_code (0 : Nat) (Option.some (Jvm.ClassFile.FieldType.object "java/util/List"))).before args0 about1 = true := code_word (m := ⟨6, 3⟩) (meth := k6m3) (c := k6c3) (by decide +kernel) rfl rfl rfl (by decide +kernel)
set_option maxRecDepth 65536 in
theorem w_c25 : (Jvm.Cond.code ({ cls := "java/util/ImmutableCollections$List12", name := "size", desc := "()I" } : Jvm.MethodName) jdk_44_method_3_code (1 : Nat) (Option.some Jvm.ClassFile.FieldType.int)).before args0 about1 = true := code_word (m := ⟨24, 1⟩) (meth := k24m1) (c := k24c1) (by decide +kernel) rfl rfl rfl (by decide +kernel)
set_option maxRecDepth 65536 in
theorem w_c26 : (Jvm.Cond.code ({ cls := "java/util/ImmutableCollections$List12", name := "get", desc := "(I)Ljava/lang/Object;" } : Jvm.MethodName) jdk_44_method_5_code (2 : Nat) (Option.some (Jvm.ClassFile.FieldType.object "java/lang/Object"))).before args0 about1 = true := code_word (m := ⟨24, 2⟩) (meth := k24m2) (c := k24c2) (by decide +kernel) rfl rfl rfl (by decide +kernel)
set_option maxRecDepth 65536 in
theorem w_c27 : (Jvm.Cond.code ({ cls := "com/example/arcward/arcward/model/Variable", name := "index", desc := "()I" } : Jvm.MethodName) prog_43_method_3_code (1 : Nat) (Option.some Jvm.ClassFile.FieldType.int)).before args0 about1 = true := code_word (m := ⟨12, 1⟩) (meth := k12m1) (c := k12c1) (by decide +kernel) rfl rfl rfl (by decide +kernel)
set_option maxRecDepth 65536 in
theorem w_c28 : (Jvm.Cond.code ({ cls := "java/util/ImmutableCollections$AbstractImmutableList", name := "iterator", desc := "()Ljava/util/Iterator;" } : Jvm.MethodName) jdk_46_method_10_code (1 : Nat) (Option.some (Jvm.ClassFile.FieldType.object "java/util/Iterator"))).before args0 about1 = true := code_word (m := ⟨23, 1⟩) (meth := k23m1) (c := k23c1) (by decide +kernel) rfl rfl rfl (by decide +kernel)
set_option maxRecDepth 65536 in
theorem w_c29 : (Jvm.Cond.code ({ cls := "java/util/ImmutableCollections$ListN", name := "size", desc := "()I" } : Jvm.MethodName) jdk_45_method_3_code (1 : Nat) (Option.some Jvm.ClassFile.FieldType.int)).before args0 about1 = true := code_word (m := ⟨25, 0⟩) (meth := k25m0) (c := k25c0) (by decide +kernel) rfl rfl rfl (by decide +kernel)
set_option maxRecDepth 65536 in
theorem w_c30 : (Jvm.Cond.code ({ cls := "java/util/ImmutableCollections$ListItr", name := "<init>", desc := "(Ljava/util/List;I)V" } : Jvm.MethodName) jdk_53_method_1_code (3 : Nat) (Option.none : Option Jvm.ClassFile.FieldType)).before args0 about1 = true := code_word (m := ⟨31, 0⟩) (meth := k31m0) (c := k31c0) (by decide +kernel) rfl rfl rfl (by decide +kernel)
set_option maxRecDepth 65536 in
theorem w_c31 : (Jvm.Cond.code ({ cls := "java/util/ImmutableCollections$ListItr", name := "hasNext", desc := "()Z" } : Jvm.MethodName) jdk_53_method_3_code (1 : Nat) (Option.some Jvm.ClassFile.FieldType.boolean)).before args0 about1 = true := code_word (m := ⟨31, 1⟩) (meth := k31m1) (c := k31c1) (by decide +kernel) rfl rfl rfl (by decide +kernel)
set_option maxRecDepth 65536 in
theorem w_c32 : (Jvm.Cond.code ({ cls := "com/example/arcward/arcward/solver/Domains", name := "<init>", desc := "(Lcom/example/arcward/arcward/model/Instance;I)V" } : Jvm.MethodName) prog_50_method_1_code (7 : Nat) (Option.none : Option Jvm.ClassFile.FieldType)).before args0 about1 = true := code_word (m := ⟨19, 0⟩) (meth := k19m0) (c := k19c0) (by decide +kernel) rfl rfl rfl (by decide +kernel)
set_option maxRecDepth 65536 in
theorem w_c33 : (Jvm.Cond.code ({ cls := "com/example/arcward/arcward/model/Instance", name := "variables", desc := "()Ljava/util/List;" } : Jvm.MethodName) prog_11_method_2_code (1 : Nat) (Option.some (Jvm.ClassFile.FieldType.object "java/util/List"))).before args0 about1 = true := code_word (m := ⟨20, 1⟩) (meth := k20m1) (c := k20c1) (by decide +kernel) rfl rfl rfl (by decide +kernel)
set_option maxRecDepth 65536 in
theorem w_c34 : (Jvm.Cond.code ({ cls := "com/example/arcward/arcward/model/Variable", name := "size", desc := "()I" } : Jvm.MethodName) prog_43_method_4_code (1 : Nat) (Option.some Jvm.ClassFile.FieldType.int)).before args0 about1 = true := code_word (m := ⟨12, 2⟩) (meth := k12m2) (c := k12c2) (by decide +kernel) rfl rfl rfl (by decide +kernel)
set_option maxRecDepth 65536 in
theorem w_c35 : (Jvm.Cond.code ({ cls := "com/example/arcward/arcward/solver/Domains", name := "wordsFor", desc := "(I)I" } : Jvm.MethodName) prog_50_method_12_code (1 : Nat) (Option.some Jvm.ClassFile.FieldType.int)).before args0 about1 = true := code_word (m := ⟨19, 4⟩) (meth := k19m4) (c := k19c4) (by decide +kernel) rfl rfl rfl (by decide +kernel)
set_option maxRecDepth 65536 in
theorem w_c36 : (Jvm.Cond.code ({ cls := "com/example/arcward/arcward/solver/DomainsClearResizedPinLaw", name := "removals", desc := "(Lcom/example/arcward/arcward/solver/Domains;II)V" } : Jvm.MethodName) method_3_code (6 : Nat) (Option.none : Option Jvm.ClassFile.FieldType)).before args0 about1 = true := code_word (m := ⟨1, 2⟩) (meth := k1m2) (c := k1c2) (by decide +kernel) rfl rfl rfl (by decide +kernel)
set_option maxRecDepth 65536 in
theorem w_c37 : (Jvm.Cond.code ({ cls := "com/example/arcward/arcward/solver/Domains", name := "clearResized", desc := "()V" } : Jvm.MethodName) prog_50_method_5_code (2 : Nat) (Option.none : Option Jvm.ClassFile.FieldType)).before args0 about1 = true := code_word (m := ⟨19, 3⟩) (meth := k19m3) (c := k19c3) (by decide +kernel) rfl rfl rfl (by decide +kernel)
set_option maxRecDepth 65536 in
theorem w_c38 : (Jvm.Cond.code ({ cls := "com/example/arcward/arcward/solver/Domains", name := "resizedCount", desc := "()I" } : Jvm.MethodName) prog_50_method_3_code (1 : Nat) (Option.some Jvm.ClassFile.FieldType.int)).before args0 about1 = true := code_word (m := ⟨19, 1⟩) (meth := k19m1) (c := k19c1) (by decide +kernel) rfl rfl rfl (by decide +kernel)
set_option maxRecDepth 65536 in
theorem w_c39 : (Jvm.Cond.code ({ cls := "com/example/arcward/arcward/solver/Domains", name := "remove", desc := "(II)V" } : Jvm.MethodName) prog_50_method_18_code (3 : Nat) (Option.none : Option Jvm.ClassFile.FieldType)).before args0 about1 = true := code_word (m := ⟨19, 5⟩) (meth := k19m5) (c := k19c5) (by decide +kernel) rfl rfl rfl (by decide +kernel)
set_option maxRecDepth 65536 in
theorem w_c40 : (Jvm.Cond.code ({ cls := "com/example/arcward/arcward/solver/Domains", name := "remove", desc := "(III)V" } : Jvm.MethodName) prog_50_method_19_code (4 : Nat) (Option.none : Option Jvm.ClassFile.FieldType)).before args0 about1 = true := code_word (m := ⟨19, 6⟩) (meth := k19m6) (c := k19c6) (by decide +kernel) rfl rfl rfl (by decide +kernel)
set_option maxRecDepth 65536 in
theorem w_c41 : (Jvm.Cond.code ({ cls := "com/example/arcward/arcward/solver/Domains", name := "markResized", desc := "(I)V" } : Jvm.MethodName) prog_50_method_23_code (2 : Nat) (Option.none : Option Jvm.ClassFile.FieldType)).before args0 about1 = true := code_word (m := ⟨19, 7⟩) (meth := k19m7) (c := k19c7) (by decide +kernel) rfl rfl rfl (by decide +kernel)
set_option maxRecDepth 65536 in
theorem w_c42 : (Jvm.Cond.code ({ cls := "com/example/arcward/arcward/solver/Domains", name := "resized", desc := "(I)I" } : Jvm.MethodName) prog_50_method_4_code (2 : Nat) (Option.some Jvm.ClassFile.FieldType.int)).before args0 about1 = true := code_word (m := ⟨19, 2⟩) (meth := k19m2) (c := k19c2) (by decide +kernel) rfl rfl rfl (by decide +kernel)
def codes1 : List Jvm.Cond := [Jvm.Cond.code x code maxLocals ret, Jvm.Cond.code ({ cls := "java/util/ArrayList", name := "<init>", desc := "()V" } : Jvm.MethodName) jdk_38_method_2_code (1 : Nat) (Option.none : Option Jvm.ClassFile.FieldType), Jvm.Cond.code ({ cls := "java/util/AbstractList", name := "<init>", desc := "()V" } : Jvm.MethodName) jdk_39_method_1_code (1 : Nat) (Option.none : Option Jvm.ClassFile.FieldType), Jvm.Cond.code ({ cls := "java/util/AbstractCollection", name := "<init>", desc := "()V" } : Jvm.MethodName) jdk_22_method_1_code (1 : Nat) (Option.none : Option Jvm.ClassFile.FieldType), Jvm.Cond.code ({ cls := "java/lang/Object", name := "<init>", desc := "()V" } : Jvm.MethodName) object_method_1_code (1 : Nat) (Option.none : Option Jvm.ClassFile.FieldType), Jvm.Cond.code ({ cls := "com/example/arcward/arcward/model/Variable", name := "<init>", desc := "(Ljava/lang/String;I[I)V" } : Jvm.MethodName) prog_43_method_1_code (5 : Nat) (Option.none : Option Jvm.ClassFile.FieldType), Jvm.Cond.code ({ cls := "java/util/ArrayList", name := "add", desc := "(Ljava/lang/Object;)Z" } : Jvm.MethodName) jdk_38_method_25_code (2 : Nat) (Option.some Jvm.ClassFile.FieldType.boolean), Jvm.Cond.code ({ cls := "java/util/ArrayList", name := "add", desc := "(Ljava/lang/Object;[Ljava/lang/Object;I)V" } : Jvm.MethodName) jdk_38_method_24_code (4 : Nat) (Option.none : Option Jvm.ClassFile.FieldType), Jvm.Cond.code ({ cls := "java/util/ArrayList", name := "grow", desc := "()[Ljava/lang/Object;" } : Jvm.MethodName) jdk_38_method_7_code (1 : Nat) (Option.some (Jvm.ClassFile.FieldType.array (Jvm.ClassFile.FieldType.object "java/lang/Object"))), Jvm.Cond.code ({ cls := "java/util/ArrayList", name := "grow", desc := "(I)[Ljava/lang/Object;" } : Jvm.MethodName) jdk_38_method_6_code (4 : Nat) (Option.some (Jvm.ClassFile.FieldType.array (Jvm.ClassFile.FieldType.object "java/lang/Object"))), Jvm.Cond.code ({ cls := "java/lang/Math", name := "max", desc := "(II)I" } : Jvm.MethodName) jdk_29_method_65_code (2 : Nat) (Option.some Jvm.ClassFile.FieldType.int), Jvm.Cond.code ({ cls := "com/example/arcward/arcward/model/Instance", name := "<init>", desc := "(Ljava/util/List;Ljava/util/List;)V" } : Jvm.MethodName) prog_11_method_1_code (7 : Nat) (Option.none : Option Jvm.ClassFile.FieldType), Jvm.Cond.code ({ cls := "java/util/List", name := "copyOf", desc := "(Ljava/util/Collection;)Ljava/util/List;" } : Jvm.MethodName) jdk_40_method_48_code (1 : Nat) (Option.some (Jvm.ClassFile.FieldType.object "java/util/List")), Jvm.Cond.code ({ cls := "java/util/ImmutableCollections", name := "listCopy", desc := "(Ljava/util/Collection;)Ljava/util/List;" } : Jvm.MethodName) jdk_56_method_3_code (2 : Nat) (Option.some (Jvm.ClassFile.FieldType.object "java/util/List")), Jvm.Cond.code ({ cls := "java/util/ArrayList", name := "isEmpty", desc := "()Z" } : Jvm.MethodName) jdk_38_method_9_code (1 : Nat) (Option.some Jvm.ClassFile.FieldType.boolean), Jvm.Cond.code ({ cls := "java/util/ArrayList", name := "toArray", desc := "()[Ljava/lang/Object;" } : Jvm.MethodName) jdk_38_method_16_code (1 : Nat) (Option.some (Jvm.ClassFile.FieldType.array (Jvm.ClassFile.FieldType.object "java/lang/Object"))), Jvm.Cond.code ({ cls := "java/util/Arrays", name := "copyOf", desc := "([Ljava/lang/Object;I)[Ljava/lang/Object;" } : Jvm.MethodName) jdk_65_method_119_code (2 : Nat) (Option.some (Jvm.ClassFile.FieldType.array (Jvm.ClassFile.FieldType.object "java/lang/Object"))), Jvm.Cond.code ({ cls := "java/util/Arrays", name := "copyOf", desc := "([Ljava/lang/Object;ILjava/lang/Class;)[Ljava/lang/Object;" } : Jvm.MethodName) jdk_65_method_120_code (4 : Nat) (Option.some (Jvm.ClassFile.FieldType.array (Jvm.ClassFile.FieldType.object "java/lang/Object"))), Jvm.Cond.code ({ cls := "java/lang/Math", name := "min", desc := "(II)I" } : Jvm.MethodName) jdk_29_method_69_code (2 : Nat) (Option.some Jvm.ClassFile.FieldType.int), Jvm.Cond.code ({ cls := "java/util/List", name := "of", desc := "([Ljava/lang/Object;)Ljava/util/List;" } : Jvm.MethodName) jdk_40_method_47_code (2 : Nat) (Option.some (Jvm.ClassFile.FieldType.object "java/util/List")), Jvm.Cond.code ({ cls := "java/util/ImmutableCollections$List12", name := "<init>", desc := "(Ljava/lang/Object;Ljava/lang/Object;)V" } : Jvm.MethodName) jdk_44_method_2_code (3 : Nat) (Option.none : Option Jvm.ClassFile.FieldType), Jvm.Cond.code ({ cls := "java/util/ImmutableCollections$AbstractImmutableList", name := "<init>", desc := "()V" } : Jvm.MethodName) jdk_46_method_1_code (1 : Nat) (Option.none : Option Jvm.ClassFile.FieldType), Jvm.Cond.code ({ cls := "java/util/ImmutableCollections$AbstractImmutableCollection", name := "<init>", desc := "()V" } : Jvm.MethodName) jdk_47_method_1_code (1 : Nat) (Option.none : Option Jvm.ClassFile.FieldType), Jvm.Cond.code ({ cls := "java/util/Objects", name := "requireNonNull", desc := "(Ljava/lang/Object;)Ljava/lang/Object;" } : Jvm.MethodName) jdk_31_method_10_code (1 : Nat) (Option.some (Jvm.ClassFile.FieldType.object "java/lang/Object")), Jvm.Cond.code ({ cls := "java/util/List", name := "of", desc := "()Ljava/util/List;" } : Jvm.MethodName) jdk_40_method_36_code (0 : Nat) (Option.some (Jvm.ClassFile.FieldType.object "java/util/List")), Jvm.Cond.code ({ cls := "java/util/ImmutableCollections$List12", name := "size", desc := "()I" } : Jvm.MethodName) jdk_44_method_3_code (1 : Nat) (Option.some Jvm.ClassFile.FieldType.int), Jvm.Cond.code ({ cls := "java/util/ImmutableCollections$List12", name := "get", desc := "(I)Ljava/lang/Object;" } : Jvm.MethodName) jdk_44_method_5_code (2 : Nat) (Option.some (Jvm.ClassFile.FieldType.object "java/lang/Object")), Jvm.Cond.code ({ cls := "com/example/arcward/arcward/model/Variable", name := "index", desc := "()I" } : Jvm.MethodName) prog_43_method_3_code (1 : Nat) (Option.some Jvm.ClassFile.FieldType.int), Jvm.Cond.code ({ cls := "java/util/ImmutableCollections$AbstractImmutableList", name := "iterator", desc := "()Ljava/util/Iterator;" } : Jvm.MethodName) jdk_46_method_10_code (1 : Nat) (Option.some (Jvm.ClassFile.FieldType.object "java/util/Iterator")), Jvm.Cond.code ({ cls := "java/util/ImmutableCollections$ListN", name := "size", desc := "()I" } : Jvm.MethodName) jdk_45_method_3_code (1 : Nat) (Option.some Jvm.ClassFile.FieldType.int), Jvm.Cond.code ({ cls := "java/util/ImmutableCollections$ListItr", name := "<init>", desc := "(Ljava/util/List;I)V" } : Jvm.MethodName) jdk_53_method_1_code (3 : Nat) (Option.none : Option Jvm.ClassFile.FieldType), Jvm.Cond.code ({ cls := "java/util/ImmutableCollections$ListItr", name := "hasNext", desc := "()Z" } : Jvm.MethodName) jdk_53_method_3_code (1 : Nat) (Option.some Jvm.ClassFile.FieldType.boolean), Jvm.Cond.code ({ cls := "com/example/arcward/arcward/solver/Domains", name := "<init>", desc := "(Lcom/example/arcward/arcward/model/Instance;I)V" } : Jvm.MethodName) prog_50_method_1_code (7 : Nat) (Option.none : Option Jvm.ClassFile.FieldType), Jvm.Cond.code ({ cls := "com/example/arcward/arcward/model/Instance", name := "variables", desc := "()Ljava/util/List;" } : Jvm.MethodName) prog_11_method_2_code (1 : Nat) (Option.some (Jvm.ClassFile.FieldType.object "java/util/List")), Jvm.Cond.code ({ cls := "com/example/arcward/arcward/model/Variable", name := "size", desc := "()I" } : Jvm.MethodName) prog_43_method_4_code (1 : Nat) (Option.some Jvm.ClassFile.FieldType.int), Jvm.Cond.code ({ cls := "com/example/arcward/arcward/solver/Domains", name := "wordsFor", desc := "(I)I" } : Jvm.MethodName) prog_50_method_12_code (1 : Nat) (Option.some Jvm.ClassFile.FieldType.int), Jvm.Cond.code ({ cls := "com/example/arcward/arcward/solver/DomainsClearResizedPinLaw", name := "removals", desc := "(Lcom/example/arcward/arcward/solver/Domains;II)V" } : Jvm.MethodName) method_3_code (6 : Nat) (Option.none : Option Jvm.ClassFile.FieldType), Jvm.Cond.code ({ cls := "com/example/arcward/arcward/solver/Domains", name := "clearResized", desc := "()V" } : Jvm.MethodName) prog_50_method_5_code (2 : Nat) (Option.none : Option Jvm.ClassFile.FieldType), Jvm.Cond.code ({ cls := "com/example/arcward/arcward/solver/Domains", name := "resizedCount", desc := "()I" } : Jvm.MethodName) prog_50_method_3_code (1 : Nat) (Option.some Jvm.ClassFile.FieldType.int), Jvm.Cond.code ({ cls := "com/example/arcward/arcward/solver/Domains", name := "remove", desc := "(II)V" } : Jvm.MethodName) prog_50_method_18_code (3 : Nat) (Option.none : Option Jvm.ClassFile.FieldType), Jvm.Cond.code ({ cls := "com/example/arcward/arcward/solver/Domains", name := "remove", desc := "(III)V" } : Jvm.MethodName) prog_50_method_19_code (4 : Nat) (Option.none : Option Jvm.ClassFile.FieldType), Jvm.Cond.code ({ cls := "com/example/arcward/arcward/solver/Domains", name := "markResized", desc := "(I)V" } : Jvm.MethodName) prog_50_method_23_code (2 : Nat) (Option.none : Option Jvm.ClassFile.FieldType), Jvm.Cond.code ({ cls := "com/example/arcward/arcward/solver/Domains", name := "resized", desc := "(I)I" } : Jvm.MethodName) prog_50_method_4_code (2 : Nat) (Option.some Jvm.ClassFile.FieldType.int)]
set_option maxRecDepth 65536 in
theorem codes_eq : words1.filter isCode = codes1 := rfl
theorem w_codes : ∀ c ∈ words1.filter isCode, c.before args0 about1 = true := by
  rw [codes_eq]
  intro c hc
  simp only [codes1, List.mem_cons, List.not_mem_nil, or_false] at hc
  rcases hc with rfl | rfl | rfl | rfl | rfl | rfl | rfl | rfl | rfl | rfl | rfl | rfl | rfl | rfl | rfl | rfl | rfl | rfl | rfl | rfl | rfl | rfl | rfl | rfl | rfl | rfl | rfl | rfl | rfl | rfl | rfl | rfl | rfl | rfl | rfl | rfl | rfl | rfl | rfl | rfl | rfl | rfl | rfl
  · exact w_c0
  · exact w_c1
  · exact w_c2
  · exact w_c3
  · exact w_c4
  · exact w_c5
  · exact w_c6
  · exact w_c7
  · exact w_c8
  · exact w_c9
  · exact w_c10
  · exact w_c11
  · exact w_c12
  · exact w_c13
  · exact w_c14
  · exact w_c15
  · exact w_c16
  · exact w_c17
  · exact w_c18
  · exact w_c19
  · exact w_c20
  · exact w_c21
  · exact w_c22
  · exact w_c23
  · exact w_c24
  · exact w_c25
  · exact w_c26
  · exact w_c27
  · exact w_c28
  · exact w_c29
  · exact w_c30
  · exact w_c31
  · exact w_c32
  · exact w_c33
  · exact w_c34
  · exact w_c35
  · exact w_c36
  · exact w_c37
  · exact w_c38
  · exact w_c39
  · exact w_c40
  · exact w_c41
  · exact w_c42
set_option maxRecDepth 65536 in
theorem w_t1 : (words1.take 24).all (fun c => isCode c || c.before args0 about1) = true := by decide +kernel
set_option maxRecDepth 65536 in
theorem w_t2 : ((words1.drop 24).take 24).all (fun c => isCode c || c.before args0 about1) = true := by decide +kernel
set_option maxRecDepth 65536 in
theorem w_t3 : (((words1.drop 24).drop 24).take 24).all (fun c => isCode c || c.before args0 about1) = true := by decide +kernel
set_option maxRecDepth 65536 in
theorem w_t4 : ((((words1.drop 24).drop 24).drop 24).take 24).all (fun c => isCode c || c.before args0 about1) = true := by decide +kernel
set_option maxRecDepth 65536 in
theorem w_t5 : (((((words1.drop 24).drop 24).drop 24).drop 24).take 24).all (fun c => isCode c || c.before args0 about1) = true := by decide +kernel
set_option maxRecDepth 65536 in
theorem w_t6 : ((((((words1.drop 24).drop 24).drop 24).drop 24).drop 24).take 24).all (fun c => isCode c || c.before args0 about1) = true := by decide +kernel
set_option maxRecDepth 65536 in
theorem w_t7 : (((((((words1.drop 24).drop 24).drop 24).drop 24).drop 24).drop 24).take 24).all (fun c => isCode c || c.before args0 about1) = true := by decide +kernel
set_option maxRecDepth 65536 in
theorem w_t8 : ((((((((words1.drop 24).drop 24).drop 24).drop 24).drop 24).drop 24).drop 24).take 24).all (fun c => isCode c || c.before args0 about1) = true := by decide +kernel
set_option maxRecDepth 65536 in
theorem w_t9 : (((((((((words1.drop 24).drop 24).drop 24).drop 24).drop 24).drop 24).drop 24).drop 24).take 24).all (fun c => isCode c || c.before args0 about1) = true := by decide +kernel
set_option maxRecDepth 65536 in
theorem w_t10 : ((((((((((words1.drop 24).drop 24).drop 24).drop 24).drop 24).drop 24).drop 24).drop 24).drop 24).take 24).all (fun c => isCode c || c.before args0 about1) = true := by decide +kernel
set_option maxRecDepth 65536 in
theorem w_t11 : (((((((((((words1.drop 24).drop 24).drop 24).drop 24).drop 24).drop 24).drop 24).drop 24).drop 24).drop 24).take 24).all (fun c => isCode c || c.before args0 about1) = true := by decide +kernel
set_option maxRecDepth 65536 in
theorem w_t12 : ((((((((((((words1.drop 24).drop 24).drop 24).drop 24).drop 24).drop 24).drop 24).drop 24).drop 24).drop 24).drop 24).take 24).all (fun c => isCode c || c.before args0 about1) = true := by decide +kernel
set_option maxRecDepth 65536 in
theorem w_t13 : (((((((((((((words1.drop 24).drop 24).drop 24).drop 24).drop 24).drop 24).drop 24).drop 24).drop 24).drop 24).drop 24).drop 24).take 24).all (fun c => isCode c || c.before args0 about1) = true := by decide +kernel
set_option maxRecDepth 65536 in
theorem w_t14 : (((((((((((((words1.drop 24).drop 24).drop 24).drop 24).drop 24).drop 24).drop 24).drop 24).drop 24).drop 24).drop 24).drop 24).drop 24).all (fun c => isCode c || c.before args0 about1) = true := by decide +kernel
theorem w_tables : (allAtoms (Jvm.Cond.code x code maxLocals ret :: tables_1)).before args0 about1 = true := by
  rw [allAtoms_all]
  show words1.all (fun c => c.before args0 about1) = true
  refine all_split ?_ w_codes
  rw [← List.take_append_drop 24 words1, List.all_append, w_t1, ← List.take_append_drop 24 (words1.drop 24), List.all_append, w_t2, ← List.take_append_drop 24 ((words1.drop 24).drop 24), List.all_append, w_t3, ← List.take_append_drop 24 (((words1.drop 24).drop 24).drop 24), List.all_append, w_t4, ← List.take_append_drop 24 ((((words1.drop 24).drop 24).drop 24).drop 24), List.all_append, w_t5, ← List.take_append_drop 24 (((((words1.drop 24).drop 24).drop 24).drop 24).drop 24), List.all_append, w_t6, ← List.take_append_drop 24 ((((((words1.drop 24).drop 24).drop 24).drop 24).drop 24).drop 24), List.all_append, w_t7, ← List.take_append_drop 24 (((((((words1.drop 24).drop 24).drop 24).drop 24).drop 24).drop 24).drop 24), List.all_append, w_t8, ← List.take_append_drop 24 ((((((((words1.drop 24).drop 24).drop 24).drop 24).drop 24).drop 24).drop 24).drop 24), List.all_append, w_t9, ← List.take_append_drop 24 (((((((((words1.drop 24).drop 24).drop 24).drop 24).drop 24).drop 24).drop 24).drop 24).drop 24), List.all_append, w_t10, ← List.take_append_drop 24 ((((((((((words1.drop 24).drop 24).drop 24).drop 24).drop 24).drop 24).drop 24).drop 24).drop 24).drop 24), List.all_append, w_t11, ← List.take_append_drop 24 (((((((((((words1.drop 24).drop 24).drop 24).drop 24).drop 24).drop 24).drop 24).drop 24).drop 24).drop 24).drop 24), List.all_append, w_t12, ← List.take_append_drop 24 ((((((((((((words1.drop 24).drop 24).drop 24).drop 24).drop 24).drop 24).drop 24).drop 24).drop 24).drop 24).drop 24).drop 24), List.all_append, w_t13, w_t14]
  rfl
set_option maxRecDepth 65536 in
theorem w_rest : rest_1_c.before args0 about1 = true := by decide +kernel
set_option maxRecDepth 65536 in
theorem w_case : (Jvm.Cond.and given_1 narrow_1).before args0 about1 = true := by decide +kernel
theorem w_applies : (headSpec (Jvm.Cond.code x code maxLocals ret :: tables_1) room_1).applies x e0.platform about1 = true :=
  (Spec.applies_iff w_frames).mpr ⟨w_running, w_runnable, w_alone, w_named, w_hears, w_ripe, w_room, w_tables⟩
theorem atStart : AtStart classFile x code maxLocals ret World_1 tables_1 room_1 Calls_1 rest_1 Pre_1 launch0 p0 e0 about1 theMethod args0 below0 :=
  ⟨lists_1, trivial, launch0.admits_env _ _ _, launch0.least_env, fairChoices_fair.cas, fairChoices_fair.clock, w_frames, w_args, w_heap, w_applies, ⟨⟨41, k41, 2, by decide +kernel, rfl, rfl, _, rfl, rfl⟩, trivial⟩, w_rest, w_case⟩
end start1
theorem witness_1 : WitnessClaimed_1 := ⟨start1.p0, start1.e0, start1.about1, start1.theMethod, start1.args0, start1.below0, start1.atStart⟩
end Jvm.Pilot.@@N@@
