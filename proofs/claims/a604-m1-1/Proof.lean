import JvmDerived
import JvmDerived.Pilot.@@N@@Statement
import JvmDerived.Pilot.@@N@@Code
set_option linter.unusedVariables false
set_option linter.unusedSimpArgs false
namespace Jvm.Pilot.@@N@@
open Jvm Jvm.ClassFile Sem Op Lib Jvm.Free Jvm.Stand Jvm.LawKit Jvm.RoadKit Bundle Jvm.Pilot.@@N@@.Jvm.D
section OwnBase
variable {tb : Tables} {e : Env} {below : List Frame} {A B : State} {K : State → Outcome → Prop}
/-- from A the run comes to an end of which K holds -/
def own_Ends (tb : Tables) (e : Env) (below : List Frame) (A : State) (K : State → Outcome → Prop) : Prop := ∃ t o, Steps tb e below A t ∧ K t o
theorem own_open {P : State → Outcome → Prop} (h : ∀ K : State → Outcome → Prop, (∀ t o, P t o → K t o) → own_Ends tb e below A K) : ∃ t o, Steps tb e below A t ∧ P t o := h P fun _ _ q => q
theorem own_go (h : ∀ t, Steps tb e below B t → Steps tb e below A t) (k : own_Ends tb e below B K) : own_Ends tb e below A K := by
  obtain ⟨t, o, h1, h2⟩ := k; exact ⟨t, o, h t h1, h2⟩
theorem own_n0 {Z : State} {n0 : Nat} {h : Heap} (O : Old Z n0 h) : n0 ≤ h.size := O.1 ▸ O.2.1
theorem own_bt {P : Prop} [Decidable P] (h : P) : ¬ ((if P then (1 : Int32) else 0) = 0) := by rw [if_pos h]; decide
theorem own_bf {P : Prop} [Decidable P] (h : ¬ P) : (if P then (1 : Int32) else 0) = 0 := by rw [if_neg h]
theorem own_lt_n0 {Z : State} {n0 : Nat} {h : Heap} {a : Addr} (O : Old Z n0 h) (q : a < Z.heap.size) : a < n0 := O.1 ▸ q
section OwnRet
variable {p : Program} {l : Launch} {R : Room} {s : State} {m : MethodId} {args : Array Value} {meth : Method} {c : Code} {T : State} {locs : List Loc} {cells slots : Nat}
theorem own_retI (X : Stand p l e R s m args below meth c T locs cells slots) (hx : p.tables.exec = Jvm.exec) {pc : Nat} {Ls : Array Slot} {z : Int32} {rest : List Value} (hret : meth.sig.returnType = some .int) (hd : decode c.code pc = .ok (.ireturn, 1)) {fs : List Frame}
    (hl : ∀ (f : JFrame) (acts : List Action), f.method = m → f.locked = none → f.entered = [] → (doReturn e (T.setTop f) acts (some (.int z))).1 = T.setFrames fs) : Steps p.tables e below (T.setTop (mkF m pc Ls (.int z :: rest))) (T.setFrames fs) :=
  retOut X hx hret rfl (Or.inl ⟨rfl, Or.inl rfl, z, rfl⟩) hd hl
theorem own_retL (X : Stand p l e R s m args below meth c T locs cells slots) (hx : p.tables.exec = Jvm.exec) {pc : Nat} {Ls : Array Slot} {z : Int64} {rest : List Value} (hret : meth.sig.returnType = some .long) (hd : decode c.code pc = .ok (.lreturn, 1)) {fs : List Frame}
    (hl : ∀ (f : JFrame) (acts : List Action), f.method = m → f.locked = none → f.entered = [] → (doReturn e (T.setTop f) acts (some (.long z))).1 = T.setFrames fs) : Steps p.tables e below (T.setTop (mkF m pc Ls (.long z :: rest))) (T.setFrames fs) :=
  retOut X hx hret rfl (Or.inr (Or.inl ⟨rfl, rfl, z, rfl⟩)) hd hl
theorem own_retA (X : Stand p l e R s m args below meth c T locs cells slots) (hx : p.tables.exec = Jvm.exec) {pc : Nat} {Ls : Array Slot} {w : Value} {t : FieldType} {rest : List Value} (hret : meth.sig.returnType = some t) (ht : t.isReference = true) (hw : w.isRef = true) (hd : decode c.code pc = .ok (.areturn, 1)) {fs : List Frame}
    (hl : ∀ (f : JFrame) (acts : List Action), f.method = m → f.locked = none → f.entered = [] → (doReturn e (T.setTop f) acts (some w)).1 = T.setFrames fs) : Steps p.tables e below (T.setTop (mkF m pc Ls (w :: rest))) (T.setFrames fs) := by
  have hn : narrow t w = w := by cases t <;> first | rfl | exact Bool.noConfusion ht
  exact retOut X hx hret hn (Or.inr (Or.inr (Or.inr (Or.inr ⟨rfl, ht, hw⟩)))) hd hl
end OwnRet
end OwnBase
theorem own_eqI {Z : State} {args : Array Value} {t : Term} {k : Int32} (h : (Jvm.Cond.eq t (Term.int k)).value args Z none Z [] = some true) : t.eval args Z none [] Z = some (.int k) := by
  obtain ⟨y, z, h1, h2, -, -⟩ := cmp_v (Or.inl h)
  have h3 : z = .int k := Option.some.inj (h2.symm.trans (Term.int_eval k))
  subst h3
  rw [h1]
  simp only [Jvm.Cond.value] at h
  rw [h1, h2] at h
  cases y <;> simp at h ⊢
  exact h
/-- what the case says of Integer's cache -/
def own_Cache (Z : State) (w_cache : Addr) (cl : Cell) : Prop := Sta Z Z.heap "java/lang/Integer$IntegerCache" "high" "I" (.int (127 : Int32)) ∧ Sta Z Z.heap "java/lang/Integer$IntegerCache" "cache" "[Ljava/lang/Integer;" (.ref w_cache) ∧ Arr Z Z.heap w_cache cl (.object "java/lang/Integer") ∧
  ∀ w : Int32, ¬ w < (-128 : Int32) → ¬ (127 : Int32) < w → ∃ r : Addr, ¬ ((w + (128 : Int32)) < 0 ∨ cl.slots.size ≤ (w + (128 : Int32)).toNatClampNeg) ∧ cl.slots[(w + (128 : Int32)).toNatClampNeg]? = some (.ref r) ∧ Exa Z Z.heap r "java/lang/Integer"
theorem own_cache {Z : State} {args : Array Value} (hs : ∀ d ∈ Jvm.Free.IntBox.intClinit, d.before args Z = true) (hi : (Jvm.Cond.initialized "java/lang/Integer$IntegerCache").before args Z = true) : ∃ w_cache cl, own_Cache Z w_cache cl := by
  have hv : ∀ d ∈ Jvm.Free.IntBox.intClinit, d.value args Z none Z [] = some true := fun d hd => Cond.before_iff.mp (hs d hd)
  have e1 := own_eqI (hv (.eq (Term.static Jvm.Free.IntBox.ICC "high" "I") (.int 127)) (List.mem_of_getElem? (i := 3) rfl))
  have a4 := hv (.arrayOf Jvm.Free.IntBox.cacheT (.object Jvm.Free.IntBox.IC)) (List.mem_of_getElem? (i := 4) rfl)
  obtain ⟨w, ev⟩ := arr_v a4
  obtain ⟨cl, A⟩ := Arr.start ev a4
  have hat : Z.arrayAt? w = some cl := A.fin (Vm.Alike.refl _)
  have hsz := Jvm.Free.IntBox.length_fwd (hs (.eq (.length Jvm.Free.IntBox.cacheT) (.int 256)) (List.mem_of_getElem? (i := 6) rfl)) ev A.1 A.2.1 A.2.2
  have h256 : cl.slots.size = 256 := by
    have q := len_toInt hsz.1
    rw [hsz.2] at q
    have : (256 : Int32).toInt = 256 := by decide
    omega
  refine ⟨w, cl, Sta.start e1 (Or.inl (hs _ (List.mem_of_getElem? (i := 1) rfl))), Sta.start ev (Or.inr ⟨hi, hs _ (List.mem_of_getElem? (i := 2) rfl)⟩), A, fun v h1 h2 => ?_⟩
  obtain ⟨hb, hlt⟩ := Jvm.Free.IntBox.place_ok v h1 h2
  have hall := Cond.all_elim (c := .and (.exactly (.elem Jvm.Free.IntBox.cacheT (.index 0)) Jvm.Free.IntBox.IC) (.eq (.field (.elem Jvm.Free.IntBox.cacheT (.index 0)) Jvm.Free.IntBox.IC "value" "I") (.sub (.index 0) (.int 128)))) ev hat (hv _ (List.mem_of_getElem? (i := 7) rfl))
  have hj := hall _ (by rw [h256]; exact hlt)
  have hx := (and_e hj).1
  obtain ⟨r, er⟩ := exa_v hx
  have hE := exa_at er hx
  refine ⟨r, by rw [h256]; exact hb, ?_, hE⟩
  obtain ⟨hnn, hback⟩ := Jvm.Free.IntBox.place_nonneg _ hlt
  have ev' : Jvm.Free.IntBox.cacheT.eval args Z none [(v + 128).toNatClampNeg] Z = some (.ref w) := ev
  have : (Term.elem Jvm.Free.IntBox.cacheT (.index 0)).eval args Z none [(v + 128).toNatClampNeg] Z = cl.slots[(v + 128).toNatClampNeg]? := by
    simp [Term.eval, ev', hnn, hat, hback]
  rw [← this]; exact er
/-- an Integer is of no class of another name that isn't above it -/
theorem own_noInt {Z : State} {a0 : Array Value} {h : Heap} {a : Addr} {K : String} {kk : Nat} (E : Exa Z h a "java/lang/Integer") (w1 : (Jvm.Cond.superclass "java/lang/Integer" "java/lang/Number").before a0 Z = true) (w2 : (Jvm.Cond.superclass "java/lang/Number" "java/lang/Object").before a0 Z = true) (w3 : (Jvm.Cond.noSuperclass "java/lang/Object").before a0 Z = true)
    (wi : (Jvm.Cond.instantiable K kk).before a0 Z = true) (n1 : K ≠ "java/lang/Integer") (n2 : K ≠ "java/lang/Number") (n3 : K ≠ "java/lang/Object") : Ins Z h a K false := by
  obtain ⟨cell, k, h1, h2, h3, h4, -⟩ := E
  obtain ⟨cK, kK, i1, i2, i3, i4', -, -⟩ := Cond.instantiable_spec wi
  have i4 : kK.isInterface = false := (Bool.or_eq_false_iff.mp i4').1
  obtain ⟨cN, kI, kN, fN, gI, gN, sI, oI, -, -⟩ := Cond.superclass_spec h2 w1
  obtain ⟨cO, kN', kO, fO, gN', gO, sN, -, -, -⟩ := Cond.superclass_spec fN w2
  cases gN.symm.trans gN'
  obtain ⟨cO', kO', fO', gO', sO, -, -⟩ := Cond.noSuperclass_spec w3
  cases fO.symm.trans fO'
  cases gO.symm.trans gO'
  have nm : ∀ {C D : String} {x y : ClassId}, Z.vm.findClass C = some x → Z.vm.findClass D = some y → C ≠ D → x ≠ y := fun {C D x y} p q r e => by
    subst e
    obtain ⟨k1, a1, a2⟩ := Vm.findClass_spec p
    obtain ⟨k2, b1, b2⟩ := Vm.findClass_spec q
    cases a1.symm.trans b1
    exact r (a2.symm.trans b2)
  have d1 := nm h2 i1 (Ne.symm n1)
  have d2 := nm fN i1 (Ne.symm n2)
  have d3 := nm fO i1 (Ne.symm n3)
  refine ⟨cell, cK, h1, i1, ?_⟩
  have sub : ∀ fuel, Z.vm.isSubclassAux fuel cell.cls cK = false := fun fuel => by
    match fuel with
    | 0 => rfl
    | 1 => simp [Vm.isSubclassAux, d1, d2, gI, sI]
    | 2 => simp [Vm.isSubclassAux, d1, d2, d3, gI, sI, gN, sN]
    | f + 3 => simp [Vm.isSubclassAux, d1, d2, d3, gI, sI, gN, sN, gO, sO]
  have : Z.vm.assignableAux (255 + 1) cell.cls cK = false := by simp [Vm.assignableAux, d1, gI, i2, oI, i3, i4, Vm.isSubclass, sub]
  have e : Z.vm.assignable cell.cls cK = false := this
  simp [e]

theorem own_d7_0 : decode jdk_18_method_1_code 0 = .ok (.aload_n 0, 1) := by decide +kernel
theorem own_d7_1 : decode jdk_18_method_1_code 1 = .ok (.invokespecial 1, 3) := by decide +kernel
theorem own_d7_4 : decode jdk_18_method_1_code 4 = .ok (.return_, 1) := by decide +kernel
theorem own_pn_0 : plainName "java/lang/Number" = true := by first | (simp [plainName, overriddenIn]; done) | decide +kernel
theorem own_ef_numinit (m : MethodId) (x0 : Addr)  : entryFrame m #[(.ref x0)] 1 = mkF m 0 #[.val (.ref x0)] [] := by first | (simp [entryFrame, mkF, argsToLocals, Value.category]; done) | rfl
def own_Q_numinit (Z : State) (a : Addr) (h0 : Heap) (n0 : Nat) (v : Option Value) (h : Heap) (L : List Loc) : Prop := v = none ∧ Fr n0 L ∧ h = h0
set_option maxRecDepth 65536 in
set_option maxHeartbeats 40000000 in
theorem own_rm_numinit (l : Launch) (Z : State) (a0 : Array Value) (hw : ∀ d ∈ tables_1, d.before a0 Z = true) (ws : List Jvm.Cond) (a : Addr) (h0 : Heap) (n0 : Nat) (O0 : Old Z n0 h0) :
    MetFree l (⟨"java/lang/Number", "<init>", "()V"⟩ : MethodName) (head1 (Jvm.Cond.code (⟨"java/lang/Number", "<init>", "()V"⟩ : MethodName) jdk_18_method_1_code 1 none :: ws) ({ frames := 1, cells := 0, slots := 0, locals := 12 } : Room)) (fun ar9 U => ar9 = #[(.ref a)] ∧ Z.Warmed39 U.vm ∧ U.heap = h0) (fun _ _ _ _ _ => True) (fun _ U o U' => ∃ v L, o = .returned v ∧ own_Q_numinit Z a h0 n0 v U'.heap L ∧ FrameEnd U o U' L ({ frames := 1, cells := 0, slots := 0, locals := 12 } : Room).cells ({ frames := 1, cells := 0, slots := 0, locals := 12 } : Room).slots) := by
  refine MetFree.of_bodySF (plainFor_of_name own_pn_0) hisR ?_
  intro p e s m args below meth c s₁ Bd hml0 hP hK0
  obtain ⟨rfl, hZ, hh⟩ := hP
  have hx := Bd.exec
  have hby := Bd.bytes
  have hml : c.maxLocals = 1 := hml0
  have hown : s.vm.findClass "java/lang/Number" = some m.cls := findClass_of_methodNamed Bd.named
  have hnm := (name_of_methodNamed Bd.named Bd.method).1
  have X0 : Stand p l e ({ frames := 1, cells := 0, slots := 0, locals := 12 } : Room) s m #[(.ref a)] below meth c s₁ [] 0 0 := Stand.of_body Bd
  have e0 : s₁.heap = h0 := by rw [← hh, Bd.state]; rfl
  have N0 := Fr.nil n0
  refine own_open fun K hK => ?_
  refine own_go (B := s₁.setTop (mkF m 0 #[.val (.ref a)] [])) (fun t k => castTop (own_ef_numinit m a) k) ?_
  refine own_go (B := s₁.setTop (mkF m 1 #[.val (.ref a)] [(.ref a)])) (fun t k => XS.aloadN X0.here hx rfl (hb hby own_d7_0) rfl rfl k) ?_
  obtain ⟨T1, X1, e1, st1⟩ := initO X0 hx hZ hown (hw _ (List.mem_of_getElem? (i := 56) rfl)) (hw _ (List.mem_of_getElem? (i := 14) rfl)) (hw _ (List.mem_of_getElem? (i := 15) rfl)) e0 (g := (mkF m 1 #[.val (.ref a)] [(.ref a)])) rfl (by rw [hml]; rfl) rfl (hb hby own_d7_1) (by decide) (W := 0) (by show 2 * 0 + _ ≤ _; exact Nat.le_of_eq rfl) (by decide)
  refine own_go (B := T1.setTop (mkF m 4 #[.val (.ref a)] [])) (fun t k => st1 _ k) ?_
  obtain ⟨fs, hr, hrun, hended, hW, hsame⟩ := X1.leave (v := none) (fun _ => rfl)
  refine ⟨_, _, X1.returnOut hx Bd.returns (hb hby own_d7_4) hr, hK _ _ ⟨hrun, hended, _, _, rfl, ?_, ⟨_, rfl⟩, hW, hsame.mono (by decide) (by decide)⟩⟩
  show own_Q_numinit Z a h0 n0 _ T1.heap _
  rw [e1]
  exact ⟨rfl, N0, rfl⟩
theorem own_d3_0 : decode jdk_33_method_23_code 0 = .ok (.aload_n 0, 1) := by decide +kernel
theorem own_d3_1 : decode jdk_33_method_23_code 1 = .ok (.invokespecial 202, 3) := by decide +kernel
theorem own_pd_0 : parseMethodDescriptor "()V" = some ⟨[], none⟩ := by decide +kernel
theorem own_d3_4 : decode jdk_33_method_23_code 4 = .ok (.aload_n 0, 1) := by decide +kernel
theorem own_d3_5 : decode jdk_33_method_23_code 5 = .ok (.iload_n 1, 1) := by decide +kernel
theorem own_d3_6 : decode jdk_33_method_23_code 6 = .ok (.putfield 205, 3) := by decide +kernel
theorem own_d3_9 : decode jdk_33_method_23_code 9 = .ok (.return_, 1) := by decide +kernel
theorem own_pn_1 : plainName "java/lang/Integer" = true := by first | (simp [plainName, overriddenIn]; done) | decide +kernel
theorem own_ef_intinit (m : MethodId) (x0 : Addr) (x1 : Int32)  : entryFrame m #[(.ref x0), (.int x1)] 2 = mkF m 0 #[.val (.ref x0), .val (.int x1)] [] := by first | (simp [entryFrame, mkF, argsToLocals, Value.category]; done) | rfl
def own_Q_intinit (Z : State) (a : Addr) (x : Int32) (h0 : Heap) (n0 : Nat) (v : Option Value) (h : Heap) (L : List Loc) : Prop := v = none ∧ Fr n0 L ∧ Keep h0 h [a] ∧ Exa Z h a "java/lang/Integer" ∧ Fld Z h a "java/lang/Integer" "value" "I" (.int x)
set_option maxRecDepth 65536 in
set_option maxHeartbeats 40000000 in
theorem own_rm_intinit (l : Launch) (Z : State) (a0 : Array Value) (hw : ∀ d ∈ tables_1, d.before a0 Z = true) (ws : List Jvm.Cond) (a : Addr) (x : Int32) (h0 : Heap) (n0 : Nat) (O0 : Old Z n0 h0) (E0 : Exa Z h0 a "java/lang/Integer") (g0 : n0 ≤ a) (F0 : Fld Z h0 a "java/lang/Integer" "value" "I" (.int (0 : Int32))) :
    MetFree l (⟨"java/lang/Integer", "<init>", "(I)V"⟩ : MethodName) (head1 (Jvm.Cond.code (⟨"java/lang/Integer", "<init>", "(I)V"⟩ : MethodName) jdk_33_method_23_code 2 none :: ws) ({ frames := 2, cells := 0, slots := 0, locals := 24 } : Room)) (fun ar9 U => ar9 = #[(.ref a), (.int x)] ∧ Z.Warmed39 U.vm ∧ U.heap = h0) (fun _ _ _ _ _ => True) (fun _ U o U' => ∃ v L, o = .returned v ∧ own_Q_intinit Z a x h0 n0 v U'.heap L ∧ FrameEnd U o U' L ({ frames := 2, cells := 0, slots := 0, locals := 24 } : Room).cells ({ frames := 2, cells := 0, slots := 0, locals := 24 } : Room).slots) := by
  refine MetFree.of_bodySF (plainFor_of_name own_pn_1) hisR ?_
  intro p e s m args below meth c s₁ Bd hml0 hP hK0
  obtain ⟨rfl, hZ, hh⟩ := hP
  have hx := Bd.exec
  have hby := Bd.bytes
  have hml : c.maxLocals = 2 := hml0
  have hown : s.vm.findClass "java/lang/Integer" = some m.cls := findClass_of_methodNamed Bd.named
  have hnm := (name_of_methodNamed Bd.named Bd.method).1
  have X0 : Stand p l e ({ frames := 2, cells := 0, slots := 0, locals := 24 } : Room) s m #[(.ref a), (.int x)] below meth c s₁ [] 0 0 := Stand.of_body Bd
  have e0 : s₁.heap = h0 := by rw [← hh, Bd.state]; rfl
  have N0 := Fr.nil n0
  have K0 := Keep.refl h0 [a]
  refine own_open fun K hK => ?_
  refine own_go (B := s₁.setTop (mkF m 0 #[.val (.ref a), .val (.int x)] [])) (fun t k => castTop (own_ef_intinit m a x) k) ?_
  refine own_go (B := s₁.setTop (mkF m 1 #[.val (.ref a), .val (.int x)] [(.ref a)])) (fun t k => XS.aloadN X0.here hx rfl (hb hby own_d3_0) rfl rfl k) ?_
  obtain ⟨_, _, ⟨T3, L3, k3, n3⟩, -, X3, ⟨Lc3, hQ3, l3, y3, z3⟩, st3⟩ := X0.specialBack hx (y := (⟨"java/lang/Number", "<init>", "()V"⟩ : MethodName)) rfl hown (mvT hZ (hw _ (List.mem_of_getElem? (i := 50) rfl))) (mvT hZ (hw _ (List.mem_of_getElem? (i := 51) rfl))) (mvT hZ (hw _ (List.mem_of_getElem? (i := 55) rfl))) (by decide) (backOf (W := 0) (own_rm_numinit l Z a0 hw [] a h0 n0 O0) hZ (hw _ (List.mem_of_getElem? (i := 55) rfl)) (hw _ (List.mem_of_getElem? (i := 54) rfl)) (by decide) (by decide)) (g := (mkF m 1 #[.val (.ref a), .val (.int x)] [(.ref a)])) rfl (by rw [hml]; rfl) (Steps.refl _) (a := a) (argsL := []) (rest := []) (lenOf own_pd_0 rfl) rfl (by show 2 * 0 + _ ≤ _; exact Nat.le_of_eq rfl) (hb hby own_d3_1) (fun _ _ => ⟨rfl, e0, (by decide : 0 + 0 ≤ _), (by decide : 0 + 0 ≤ _)⟩)
  dsimp only [Pt.U, Pt.locs, Pt.cells, Pt.slots] at X3 l3 y3 z3 st3 hQ3
  subst l3 y3 z3
  obtain ⟨rfl, N3q, eh3⟩ := hQ3
  have N3 := Fr.app N0 N3q
  refine own_go (B := T3.setTop (mkF m 4 #[.val (.ref a), .val (.int x)] [])) (fun t k => st3.trans k) ?_
  refine own_go (B := T3.setTop (mkF m 5 #[.val (.ref a), .val (.int x)] [(.ref a)])) (fun t k => XS.aloadN X3.here hx rfl (hb hby own_d3_4) rfl rfl k) ?_
  refine own_go (B := T3.setTop (mkF m 6 #[.val (.ref a), .val (.int x)] [(.int x), (.ref a)])) (fun t k => XS.iloadN X3.here hx rfl (hb hby own_d3_5) rfl k) ?_
  obtain ⟨T4, h4, X4, e4, W4, st4⟩ := putF X3 hx hZ hown (host := "") (Or.inl (hw _ (List.mem_of_getElem? (i := 57) rfl))) Via.refl eh3 F0 E0 (Or.inr ⟨(hw _ (List.mem_of_getElem? (i := 58) rfl)), rfl, hnm⟩) (hw _ (List.mem_of_getElem? (i := 45) rfl)) (ty := .int) (by decide) rfl rfl (g := (mkF m 6 #[.val (.ref a), .val (.int x)] [(.int x), (.ref a)])) rfl rfl (hb hby own_d3_6)
  have Fw4 := F0.same W4
  have N4 := Fr.snoc X4 N3 g0
  have O4 := O0.wr W4 g0
  have K4 := K0.wr W4 (Or.inl (by simp))
  refine own_go (B := T4.setTop (mkF m 9 #[.val (.ref a), .val (.int x)] [])) (fun t k => st4 _ k) ?_
  obtain ⟨fs, hr, hrun, hended, hW, hsame⟩ := X4.leave (v := none) (fun _ => rfl)
  have f6 := (E0.wr W4)
  refine ⟨_, _, X4.returnOut hx Bd.returns (hb hby own_d3_9) hr, hK _ _ ⟨hrun, hended, _, _, rfl, ?_, ⟨_, rfl⟩, hW, hsame.mono (by decide) (by decide)⟩⟩
  show own_Q_intinit Z a x h0 n0 _ T4.heap _
  rw [e4]
  exact ⟨rfl, N4, K4, f6, Fw4⟩
theorem own_d4_0 : decode jdk_33_method_22_code 0 = .ok (.iload_n 0, 1) := by decide +kernel
theorem own_d4_1 : decode jdk_33_method_22_code 1 = .ok (.bipush (-128), 2) := by decide +kernel
theorem own_d4_3 : decode jdk_33_method_22_code 3 = .ok (.if_icmp .lt 20, 3) := by decide +kernel
theorem own_d4_23 : decode jdk_33_method_22_code 23 = .ok (.new 1, 3) := by decide +kernel
theorem own_d4_26 : decode jdk_33_method_22_code 26 = .ok (.dup, 1) := by decide +kernel
theorem own_d4_27 : decode jdk_33_method_22_code 27 = .ok (.iload_n 0, 1) := by decide +kernel
theorem own_d4_28 : decode jdk_33_method_22_code 28 = .ok (.invokespecial 199, 3) := by decide +kernel
theorem own_pd_1 : parseMethodDescriptor "(I)V" = some ⟨[.int], none⟩ := by decide +kernel
theorem own_d4_31 : decode jdk_33_method_22_code 31 = .ok (.areturn, 1) := by decide +kernel
theorem own_d4_6 : decode jdk_33_method_22_code 6 = .ok (.iload_n 0, 1) := by decide +kernel
theorem own_d4_7 : decode jdk_33_method_22_code 7 = .ok (.getstatic 191, 3) := by decide +kernel
theorem own_d4_10 : decode jdk_33_method_22_code 10 = .ok (.if_icmp .gt 13, 3) := by decide +kernel
theorem own_d4_13 : decode jdk_33_method_22_code 13 = .ok (.getstatic 195, 3) := by decide +kernel
theorem own_d4_16 : decode jdk_33_method_22_code 16 = .ok (.iload_n 0, 1) := by decide +kernel
theorem own_d4_17 : decode jdk_33_method_22_code 17 = .ok (.sipush 128, 3) := by decide +kernel
theorem own_d4_20 : decode jdk_33_method_22_code 20 = .ok (.iadd, 1) := by decide +kernel
theorem own_d4_21 : decode jdk_33_method_22_code 21 = .ok (.aaload, 1) := by decide +kernel
theorem own_d4_22 : decode jdk_33_method_22_code 22 = .ok (.areturn, 1) := by decide +kernel
theorem own_ef_valueOf (m : MethodId) (x0 : Int32)  : entryFrame m #[(.int x0)] 1 = mkF m 0 #[.val (.int x0)] [] := by first | (simp [entryFrame, mkF, argsToLocals, Value.category]; done) | rfl
def own_Q_valueOf (Z : State) (q1 : Int32) (w_cache : Addr) (cl : Cell) (h0 : Heap) (n0 : Nat) (v : Option Value) (h : Heap) (L : List Loc) : Prop := ∃ r : Addr, v = some (.ref r) ∧ Fr n0 L ∧ Ext h0 h ∧ Exa Z h r "java/lang/Integer"
set_option maxRecDepth 65536 in
set_option maxHeartbeats 40000000 in
theorem own_rm_valueOf (l : Launch) (Z : State) (a0 : Array Value) (hw : ∀ d ∈ tables_1, d.before a0 Z = true) (ws : List Jvm.Cond) (q1 : Int32) (w_cache : Addr) (cl : Cell) (h0 : Heap) (n0 : Nat) (O0 : Old Z n0 h0) (Hc : own_Cache Z w_cache cl) :
    MetFree l (⟨"java/lang/Integer", "valueOf", "(I)Ljava/lang/Integer;"⟩ : MethodName) (head1 (Jvm.Cond.code (⟨"java/lang/Integer", "valueOf", "(I)Ljava/lang/Integer;"⟩ : MethodName) jdk_33_method_22_code 1 (some (.object "java/lang/Integer")) :: ws) ({ frames := 3, cells := 1, slots := 1, locals := 38 } : Room)) (fun ar9 U => ar9 = #[(.int q1)] ∧ Z.Warmed39 U.vm ∧ U.heap = h0) (fun _ _ _ _ _ => True) (fun _ U o U' => ∃ v L, o = .returned v ∧ own_Q_valueOf Z q1 w_cache cl h0 n0 v U'.heap L ∧ FrameEnd U o U' L ({ frames := 3, cells := 1, slots := 1, locals := 38 } : Room).cells ({ frames := 3, cells := 1, slots := 1, locals := 38 } : Room).slots) := by
  refine MetFree.of_bodySF (plainFor_of_name own_pn_1) hisR ?_
  intro p e s m args below meth c s₁ Bd hml0 hP hK0
  obtain ⟨rfl, hZ, hh⟩ := hP
  have hx := Bd.exec
  have hby := Bd.bytes
  have hml : c.maxLocals = 1 := hml0
  have hown : s.vm.findClass "java/lang/Integer" = some m.cls := findClass_of_methodNamed Bd.named
  have hnm := (name_of_methodNamed Bd.named Bd.method).1
  have X0 : Stand p l e ({ frames := 3, cells := 1, slots := 1, locals := 38 } : Room) s m #[(.int q1)] below meth c s₁ [] 0 0 := Stand.of_body Bd
  have e0 : s₁.heap = h0 := by rw [← hh, Bd.state]; rfl
  have N0 := Fr.nil n0
  have K0 := Keep.refl h0 []
  refine own_open fun K hK => ?_
  refine own_go (B := s₁.setTop (mkF m 0 #[.val (.int q1)] [])) (fun t k => castTop (own_ef_valueOf m q1) k) ?_
  refine own_go (B := s₁.setTop (mkF m 1 #[.val (.int q1)] [(.int q1)])) (fun t k => XS.iloadN X0.here hx rfl (hb hby own_d4_0) rfl k) ?_
  refine own_go (B := s₁.setTop (mkF m 3 #[.val (.int q1)] [(.int (-128 : Int32)), (.int q1)])) (fun t k => XS.bipush X0.here hx rfl (hb hby own_d4_1) k) ?_
  by_cases hc3_7 : q1 < (-128 : Int32)
  · refine own_go (B := s₁.setTop (mkF m 23 #[.val (.int q1)] [])) (fun t k => XS.icmpYes X0.here hx rfl (pc0 := 3) (pc' := 23) rfl (hb hby own_d4_3) rfl (tlt hc3_7).1 (by decide) (by decide) k) ?_
    obtain ⟨T8, h8, X8, e8, E8, A8, D8, -, st8⟩ := newO X0 hx hZ hown (hw _ (List.mem_of_getElem? (i := 44) rfl)) (hw _ (List.mem_of_getElem? (i := 45) rfl)) (hw _ (List.mem_of_getElem? (i := 30) rfl)) e0 (g := (mkF m 23 #[.val (.int q1)] [])) rfl (hb hby own_d4_23) (by decide) (by decide)
    obtain ⟨b8, g8⟩ : ∃ z, z = h0.size := ⟨_, rfl⟩
    rw [← g8] at A8 D8 st8
    have g_b8 : n0 ≤ b8 := Nat.le_trans (own_n0 O0) (Nat.le_of_eq g8.symm)
    have O8 := O0.ext E8
    have sz_b8 : h0.size ≤ b8 := Nat.le_trans K0.1 (Nat.le_of_eq g8.symm)
    have K8 := K0.ext E8
    have F8_58 : Fld Z h8 b8 "java/lang/Integer" "value" "I" (.int (0 : Int32)) := D8 (Or.inr (hw _ (List.mem_of_getElem? (i := 58) rfl))) (ty := .int) (by decide)
    refine own_go (B := T8.setTop (mkF m 26 #[.val (.int q1)] [(.ref b8)])) (fun t k => st8 _ k) ?_
    refine own_go (B := T8.setTop (mkF m 27 #[.val (.int q1)] [(.ref b8), (.ref b8)])) (fun t k => XS.dup X8.here hx rfl (hb hby own_d4_26) rfl rfl k) ?_
    refine own_go (B := T8.setTop (mkF m 28 #[.val (.int q1)] [(.int q1), (.ref b8), (.ref b8)])) (fun t k => XS.iloadN X8.here hx rfl (hb hby own_d4_27) rfl k) ?_
    obtain ⟨_, _, ⟨T9, L9, k9, n9⟩, -, X9, ⟨Lc9, hQ9, l9, y9, z9⟩, st9⟩ := X8.specialBack hx (y := (⟨"java/lang/Integer", "<init>", "(I)V"⟩ : MethodName)) rfl hown (mvT hZ (hw _ (List.mem_of_getElem? (i := 46) rfl))) (mvT hZ (hw _ (List.mem_of_getElem? (i := 47) rfl))) (mvT hZ (hw _ (List.mem_of_getElem? (i := 49) rfl))) (by decide) (backOf (W := 1) (own_rm_intinit l Z a0 hw [] b8 q1 h8 n0 O8 A8 g_b8 F8_58) hZ (hw _ (List.mem_of_getElem? (i := 49) rfl)) (hw _ (List.mem_of_getElem? (i := 30) rfl)) (by decide) (by decide)) (g := (mkF m 28 #[.val (.int q1)] [(.int q1), (.ref b8), (.ref b8)])) rfl (by rw [hml]; rfl) (Steps.refl _) (a := b8) (argsL := [(.int q1)]) (rest := [(.ref b8)]) (lenOf own_pd_1 rfl) rfl (by show 2 * 0 + _ ≤ _; exact Nat.le_of_eq rfl) (hb hby own_d4_28) (fun _ _ => ⟨rfl, e8, (by decide : 1 + 0 ≤ _), (by decide : 1 + 0 ≤ _)⟩)
    dsimp only [Pt.U, Pt.locs, Pt.cells, Pt.slots] at X9 l9 y9 z9 st9 hQ9
    subst l9 y9 z9
    obtain ⟨rfl, N9q, Kc9, En9, Fn9_0⟩ := hQ9
    have O9 := O8.keep Kc9 (allS g_b8 all0)
    have K9 := K8.trans Kc9 (allS (Or.inr sz_b8) all0)
    have N9 := Fr.app N0 N9q
    refine own_go (B := T9.setTop (mkF m 31 #[.val (.int q1)] [(.ref b8)])) (fun t k => st9.trans k) ?_
    obtain ⟨fs, hr, hrun, hended, hW, hsame⟩ := X9.leave (v := some (.ref b8)) (fun h => by rw [Bd.returns] at h; cases h)
    have f11 := (A8.keep Kc9)
    have Ex9 : Ext h0 T9.heap := ⟨K9.1, fun x c q => K9.2.1 x c q nin0⟩
    refine ⟨_, _, own_retA X9 hx Bd.returns rfl rfl (hb hby own_d4_31) hr, hK _ _ ⟨hrun, hended, _, _, rfl, ?_, ⟨_, rfl⟩, hW, hsame.mono (by decide) (by decide)⟩⟩
    show own_Q_valueOf Z q1 w_cache cl h0 n0 _ T9.heap _
    exact ⟨b8, rfl, N9, Ex9, f11⟩
  · refine own_go (B := s₁.setTop (mkF m 6 #[.val (.int q1)] [])) (fun t k => XS.icmpNo X0.here hx rfl (hb hby own_d4_3) rfl (flt hc3_7).1 k) ?_
    refine own_go (B := s₁.setTop (mkF m 7 #[.val (.int q1)] [(.int q1)])) (fun t k => XS.iloadN X0.here hx rfl (hb hby own_d4_6) rfl k) ?_
    obtain ⟨T12, X12, e12, st12⟩ := getS2 X0 hx hZ hown (host := "") (Or.inl (hw _ (List.mem_of_getElem? (i := 32) rfl))) Via.refl e0 (Hc.1.ext O0.2) (g := (mkF m 7 #[.val (.int q1)] [(.int q1)])) rfl (hb hby own_d4_7)
    refine own_go (B := T12.setTop (mkF m 10 #[.val (.int q1)] [(.int (127 : Int32)), (.int q1)])) (fun t k => st12 _ k) ?_
    by_cases hc10_13 : (127 : Int32) < q1
    · refine own_go (B := T12.setTop (mkF m 23 #[.val (.int q1)] [])) (fun t k => XS.icmpYes X12.here hx rfl (pc0 := 10) (pc' := 23) rfl (hb hby own_d4_10) rfl (tlt hc10_13).2.2.1 (by decide) (by decide) k) ?_
      obtain ⟨T14, h14, X14, e14, E14, A14, D14, -, st14⟩ := newO X12 hx hZ hown (hw _ (List.mem_of_getElem? (i := 44) rfl)) (hw _ (List.mem_of_getElem? (i := 45) rfl)) (hw _ (List.mem_of_getElem? (i := 30) rfl)) e12 (g := (mkF m 23 #[.val (.int q1)] [])) rfl (hb hby own_d4_23) (by decide) (by decide)
      obtain ⟨b14, g14⟩ : ∃ z, z = h0.size := ⟨_, rfl⟩
      rw [← g14] at A14 D14 st14
      have g_b14 : n0 ≤ b14 := Nat.le_trans (own_n0 O0) (Nat.le_of_eq g14.symm)
      have O14 := O0.ext E14
      have sz_b14 : h0.size ≤ b14 := Nat.le_trans K0.1 (Nat.le_of_eq g14.symm)
      have K14 := K0.ext E14
      have F14_58 : Fld Z h14 b14 "java/lang/Integer" "value" "I" (.int (0 : Int32)) := D14 (Or.inr (hw _ (List.mem_of_getElem? (i := 58) rfl))) (ty := .int) (by decide)
      refine own_go (B := T14.setTop (mkF m 26 #[.val (.int q1)] [(.ref b14)])) (fun t k => st14 _ k) ?_
      refine own_go (B := T14.setTop (mkF m 27 #[.val (.int q1)] [(.ref b14), (.ref b14)])) (fun t k => XS.dup X14.here hx rfl (hb hby own_d4_26) rfl rfl k) ?_
      refine own_go (B := T14.setTop (mkF m 28 #[.val (.int q1)] [(.int q1), (.ref b14), (.ref b14)])) (fun t k => XS.iloadN X14.here hx rfl (hb hby own_d4_27) rfl k) ?_
      obtain ⟨_, _, ⟨T15, L15, k15, n15⟩, -, X15, ⟨Lc15, hQ15, l15, y15, z15⟩, st15⟩ := X14.specialBack hx (y := (⟨"java/lang/Integer", "<init>", "(I)V"⟩ : MethodName)) rfl hown (mvT hZ (hw _ (List.mem_of_getElem? (i := 46) rfl))) (mvT hZ (hw _ (List.mem_of_getElem? (i := 47) rfl))) (mvT hZ (hw _ (List.mem_of_getElem? (i := 49) rfl))) (by decide) (backOf (W := 1) (own_rm_intinit l Z a0 hw [] b14 q1 h14 n0 O14 A14 g_b14 F14_58) hZ (hw _ (List.mem_of_getElem? (i := 49) rfl)) (hw _ (List.mem_of_getElem? (i := 30) rfl)) (by decide) (by decide)) (g := (mkF m 28 #[.val (.int q1)] [(.int q1), (.ref b14), (.ref b14)])) rfl (by rw [hml]; rfl) (Steps.refl _) (a := b14) (argsL := [(.int q1)]) (rest := [(.ref b14)]) (lenOf own_pd_1 rfl) rfl (by show 2 * 0 + _ ≤ _; exact Nat.le_of_eq rfl) (hb hby own_d4_28) (fun _ _ => ⟨rfl, e14, (by decide : 1 + 0 ≤ _), (by decide : 1 + 0 ≤ _)⟩)
      dsimp only [Pt.U, Pt.locs, Pt.cells, Pt.slots] at X15 l15 y15 z15 st15 hQ15
      subst l15 y15 z15
      obtain ⟨rfl, N15q, Kc15, En15, Fn15_0⟩ := hQ15
      have O15 := O14.keep Kc15 (allS g_b14 all0)
      have K15 := K14.trans Kc15 (allS (Or.inr sz_b14) all0)
      have N15 := Fr.app N0 N15q
      refine own_go (B := T15.setTop (mkF m 31 #[.val (.int q1)] [(.ref b14)])) (fun t k => st15.trans k) ?_
      obtain ⟨fs, hr, hrun, hended, hW, hsame⟩ := X15.leave (v := some (.ref b14)) (fun h => by rw [Bd.returns] at h; cases h)
      have f17 := (A14.keep Kc15)
      have Ex9 : Ext h0 T15.heap := ⟨K15.1, fun x c q => K15.2.1 x c q nin0⟩
      refine ⟨_, _, own_retA X15 hx Bd.returns rfl rfl (hb hby own_d4_31) hr, hK _ _ ⟨hrun, hended, _, _, rfl, ?_, ⟨_, rfl⟩, hW, hsame.mono (by decide) (by decide)⟩⟩
      show own_Q_valueOf Z q1 w_cache cl h0 n0 _ T15.heap _
      exact ⟨b14, rfl, N15, Ex9, f17⟩
    · refine own_go (B := T12.setTop (mkF m 13 #[.val (.int q1)] [])) (fun t k => XS.icmpNo X12.here hx rfl (hb hby own_d4_10) rfl (flt hc10_13).2.2.1 k) ?_
      obtain ⟨T18, X18, e18, st18⟩ := getS2 X12 hx hZ hown (host := "") (Or.inl (hw _ (List.mem_of_getElem? (i := 34) rfl))) Via.refl e12 (Hc.2.1.ext O0.2) (g := (mkF m 13 #[.val (.int q1)] [])) rfl (hb hby own_d4_13)
      refine own_go (B := T18.setTop (mkF m 16 #[.val (.int q1)] [(.ref w_cache)])) (fun t k => st18 _ k) ?_
      refine own_go (B := T18.setTop (mkF m 17 #[.val (.int q1)] [(.int q1), (.ref w_cache)])) (fun t k => XS.iloadN X18.here hx rfl (hb hby own_d4_16) rfl k) ?_
      refine own_go (B := T18.setTop (mkF m 20 #[.val (.int q1)] [(.int (128 : Int32)), (.int q1), (.ref w_cache)])) (fun t k => XS.sipush X18.here hx rfl (hb hby own_d4_17) k) ?_
      refine own_go (B := T18.setTop (mkF m 21 #[.val (.int q1)] [(.int (q1 + (128 : Int32))), (.ref w_cache)])) (fun t k => XS.iadd X18.here hx rfl (hb hby own_d4_20) rfl k) ?_
      obtain ⟨r19, hin19, hat19, hE19⟩ := Hc.2.2.2 q1 hc3_7 hc10_13
      have Ac19 := Hc.2.2.1.ext O0.2
      refine own_go (B := T18.setTop (mkF m 22 #[.val (.int q1)] [(.ref r19)])) (fun t k => X18.aaload hx (j := (q1 + (128 : Int32))) (v := (.ref r19)) (by rw [e18]; exact Ac19.1) (State.isArrayOf_alike hZ.alike Ac19.2.1) rfl Ac19.2.2 hin19 hat19 (g := (mkF m 21 #[.val (.int q1)] [(.int (q1 + (128 : Int32))), (.ref w_cache)])) rfl rfl (hb hby own_d4_21) _ k) ?_
      obtain ⟨fs, hr, hrun, hended, hW, hsame⟩ := X18.leave (v := some (.ref r19)) (fun h => by rw [Bd.returns] at h; cases h)
      refine ⟨_, _, own_retA X18 hx Bd.returns rfl rfl (hb hby own_d4_22) hr, hK _ _ ⟨hrun, hended, _, _, rfl, ?_, ⟨_, rfl⟩, hW, hsame.mono (by decide) (by decide)⟩⟩
      show own_Q_valueOf Z q1 w_cache cl h0 n0 _ T18.heap _
      rw [e18]
      exact ⟨r19, rfl, N0, ⟨Nat.le_refl _, fun _ _ q => q⟩, (hE19.ext O0.2)⟩
def own_min (x y : Int32) : Int32 := if y < x then y else x
def own_max (x y : Int32) : Int32 := if x < y then y else x
theorem own_minmax (x y : Int32) : ¬ own_max x y < own_min x y := by
  unfold own_min own_max
  rw [Int32.lt_iff_toInt_lt]
  split <;> split <;> simp only [Int32.lt_iff_toInt_lt] at * <;> omega
theorem own_min_r (x y : Int32) : ¬ y < own_min x y := by
  unfold own_min
  rw [Int32.lt_iff_toInt_lt]
  split <;> simp only [Int32.lt_iff_toInt_lt] at * <;> omega
theorem own_max_r (x y : Int32) : ¬ own_max x y < y := by
  unfold own_max
  rw [Int32.lt_iff_toInt_lt]
  split <;> simp only [Int32.lt_iff_toInt_lt] at * <;> omega
theorem own_d6_0 : decode jdk_29_method_69_code 0 = .ok (.iload_n 0, 1) := by decide +kernel
theorem own_d6_1 : decode jdk_29_method_69_code 1 = .ok (.iload_n 1, 1) := by decide +kernel
theorem own_d6_2 : decode jdk_29_method_69_code 2 = .ok (.if_icmp .gt 7, 3) := by decide +kernel
theorem own_d6_9 : decode jdk_29_method_69_code 9 = .ok (.iload_n 1, 1) := by decide +kernel
theorem own_d6_10 : decode jdk_29_method_69_code 10 = .ok (.ireturn, 1) := by decide +kernel
theorem own_d6_5 : decode jdk_29_method_69_code 5 = .ok (.iload_n 0, 1) := by decide +kernel
theorem own_d6_6 : decode jdk_29_method_69_code 6 = .ok (.goto 4, 3) := by decide +kernel
theorem own_ef_mmin (m : MethodId) (x0 : Int32) (x1 : Int32)  : entryFrame m #[(.int x0), (.int x1)] 2 = mkF m 0 #[.val (.int x0), .val (.int x1)] [] := by first | (simp [entryFrame, mkF, argsToLocals, Value.category]; done) | rfl
def own_Q_mmin (Z : State) (q1 q2 : Int32) (h0 : Heap) (n0 : Nat) (v : Option Value) (h : Heap) (L : List Loc) : Prop := v = some (.int (own_min q1 q2)) ∧ Fr n0 L ∧ h = h0
set_option maxRecDepth 65536 in
set_option maxHeartbeats 40000000 in
theorem own_rm_mmin (l : Launch) (Z : State) (a0 : Array Value) (hw : ∀ d ∈ tables_1, d.before a0 Z = true) (ws : List Jvm.Cond) (q1 q2 : Int32) (h0 : Heap) (n0 : Nat) (O0 : Old Z n0 h0) :
    MetFree l (⟨"java/lang/Math", "min", "(II)I"⟩ : MethodName) (head1 (Jvm.Cond.code (⟨"java/lang/Math", "min", "(II)I"⟩ : MethodName) jdk_29_method_69_code 2 (some .int) :: ws) ({ frames := 0, cells := 0, slots := 0, locals := 0 } : Room)) (fun ar9 U => ar9 = #[(.int q1), (.int q2)] ∧ Z.Warmed39 U.vm ∧ U.heap = h0) (fun _ _ _ _ _ => True) (fun _ U o U' => ∃ v L, o = .returned v ∧ own_Q_mmin Z q1 q2 h0 n0 v U'.heap L ∧ FrameEnd U o U' L ({ frames := 0, cells := 0, slots := 0, locals := 0 } : Room).cells ({ frames := 0, cells := 0, slots := 0, locals := 0 } : Room).slots) := by
  refine MetFree.of_bodySF (Jvm.Free.JP.mathPlain rfl (by decide +kernel)) hisR ?_
  intro p e s m args below meth c s₁ Bd hml0 hP hK0
  obtain ⟨rfl, hZ, hh⟩ := hP
  have hx := Bd.exec
  have hby := Bd.bytes
  have hml : c.maxLocals = 2 := hml0
  have hown : s.vm.findClass "java/lang/Math" = some m.cls := findClass_of_methodNamed Bd.named
  have hnm := (name_of_methodNamed Bd.named Bd.method).1
  have X0 : Stand p l e ({ frames := 0, cells := 0, slots := 0, locals := 0 } : Room) s m #[(.int q1), (.int q2)] below meth c s₁ [] 0 0 := Stand.of_body Bd
  have e0 : s₁.heap = h0 := by rw [← hh, Bd.state]; rfl
  have N0 := Fr.nil n0
  refine own_open fun K hK => ?_
  refine own_go (B := s₁.setTop (mkF m 0 #[.val (.int q1), .val (.int q2)] [])) (fun t k => castTop (own_ef_mmin m q1 q2) k) ?_
  refine own_go (B := s₁.setTop (mkF m 1 #[.val (.int q1), .val (.int q2)] [(.int q1)])) (fun t k => XS.iloadN X0.here hx rfl (hb hby own_d6_0) rfl k) ?_
  refine own_go (B := s₁.setTop (mkF m 2 #[.val (.int q1), .val (.int q2)] [(.int q2), (.int q1)])) (fun t k => XS.iloadN X0.here hx rfl (hb hby own_d6_1) rfl k) ?_
  by_cases hc2_21 : q2 < q1
  · refine own_go (B := s₁.setTop (mkF m 9 #[.val (.int q1), .val (.int q2)] [])) (fun t k => XS.icmpYes X0.here hx rfl (pc0 := 2) (pc' := 9) rfl (hb hby own_d6_2) rfl (tlt hc2_21).2.2.1 (by decide) (by decide) k) ?_
    refine own_go (B := s₁.setTop (mkF m 10 #[.val (.int q1), .val (.int q2)] [(.int q2)])) (fun t k => XS.iloadN X0.here hx rfl (hb hby own_d6_9) rfl k) ?_
    obtain ⟨fs, hr, hrun, hended, hW, hsame⟩ := X0.leave (v := some (.int q2)) (fun h => by rw [Bd.returns] at h; cases h)
    refine ⟨_, _, own_retI X0 hx Bd.returns (hb hby own_d6_10) hr, hK _ _ ⟨hrun, hended, _, _, rfl, ?_, ⟨_, rfl⟩, hW, hsame.mono (by decide) (by decide)⟩⟩
    show own_Q_mmin Z q1 q2 h0 n0 _ s₁.heap _
    rw [e0]
    exact ⟨(by simp only [own_min, hc2_21, if_true, if_false]), N0, rfl⟩
  · refine own_go (B := s₁.setTop (mkF m 5 #[.val (.int q1), .val (.int q2)] [])) (fun t k => XS.icmpNo X0.here hx rfl (hb hby own_d6_2) rfl (flt hc2_21).2.2.1 k) ?_
    refine own_go (B := s₁.setTop (mkF m 6 #[.val (.int q1), .val (.int q2)] [(.int q1)])) (fun t k => XS.iloadN X0.here hx rfl (hb hby own_d6_5) rfl k) ?_
    refine own_go (B := s₁.setTop (mkF m 10 #[.val (.int q1), .val (.int q2)] [(.int q1)])) (fun t k => XS.goto X0.here hx rfl (pc0 := 6) (pc' := 10) rfl (hb hby own_d6_6) (by decide) (by decide) k) ?_
    obtain ⟨fs, hr, hrun, hended, hW, hsame⟩ := X0.leave (v := some (.int q1)) (fun h => by rw [Bd.returns] at h; cases h)
    refine ⟨_, _, own_retI X0 hx Bd.returns (hb hby own_d6_10) hr, hK _ _ ⟨hrun, hended, _, _, rfl, ?_, ⟨_, rfl⟩, hW, hsame.mono (by decide) (by decide)⟩⟩
    show own_Q_mmin Z q1 q2 h0 n0 _ s₁.heap _
    rw [e0]
    exact ⟨(by simp only [own_min, hc2_21, if_true, if_false]), N0, rfl⟩
theorem own_d5_0 : decode jdk_29_method_65_code 0 = .ok (.iload_n 0, 1) := by decide +kernel
theorem own_d5_1 : decode jdk_29_method_65_code 1 = .ok (.iload_n 1, 1) := by decide +kernel
theorem own_d5_2 : decode jdk_29_method_65_code 2 = .ok (.if_icmp .lt 7, 3) := by decide +kernel
theorem own_d5_9 : decode jdk_29_method_65_code 9 = .ok (.iload_n 1, 1) := by decide +kernel
theorem own_d5_10 : decode jdk_29_method_65_code 10 = .ok (.ireturn, 1) := by decide +kernel
theorem own_d5_5 : decode jdk_29_method_65_code 5 = .ok (.iload_n 0, 1) := by decide +kernel
theorem own_d5_6 : decode jdk_29_method_65_code 6 = .ok (.goto 4, 3) := by decide +kernel
theorem own_ef_mmax (m : MethodId) (x0 : Int32) (x1 : Int32)  : entryFrame m #[(.int x0), (.int x1)] 2 = mkF m 0 #[.val (.int x0), .val (.int x1)] [] := by first | (simp [entryFrame, mkF, argsToLocals, Value.category]; done) | rfl
def own_Q_mmax (Z : State) (q1 q2 : Int32) (h0 : Heap) (n0 : Nat) (v : Option Value) (h : Heap) (L : List Loc) : Prop := v = some (.int (own_max q1 q2)) ∧ Fr n0 L ∧ h = h0
set_option maxRecDepth 65536 in
set_option maxHeartbeats 40000000 in
theorem own_rm_mmax (l : Launch) (Z : State) (a0 : Array Value) (hw : ∀ d ∈ tables_1, d.before a0 Z = true) (ws : List Jvm.Cond) (q1 q2 : Int32) (h0 : Heap) (n0 : Nat) (O0 : Old Z n0 h0) :
    MetFree l (⟨"java/lang/Math", "max", "(II)I"⟩ : MethodName) (head1 (Jvm.Cond.code (⟨"java/lang/Math", "max", "(II)I"⟩ : MethodName) jdk_29_method_65_code 2 (some .int) :: ws) ({ frames := 0, cells := 0, slots := 0, locals := 0 } : Room)) (fun ar9 U => ar9 = #[(.int q1), (.int q2)] ∧ Z.Warmed39 U.vm ∧ U.heap = h0) (fun _ _ _ _ _ => True) (fun _ U o U' => ∃ v L, o = .returned v ∧ own_Q_mmax Z q1 q2 h0 n0 v U'.heap L ∧ FrameEnd U o U' L ({ frames := 0, cells := 0, slots := 0, locals := 0 } : Room).cells ({ frames := 0, cells := 0, slots := 0, locals := 0 } : Room).slots) := by
  refine MetFree.of_bodySF (Jvm.Free.JP.mathPlain rfl (by decide +kernel)) hisR ?_
  intro p e s m args below meth c s₁ Bd hml0 hP hK0
  obtain ⟨rfl, hZ, hh⟩ := hP
  have hx := Bd.exec
  have hby := Bd.bytes
  have hml : c.maxLocals = 2 := hml0
  have hown : s.vm.findClass "java/lang/Math" = some m.cls := findClass_of_methodNamed Bd.named
  have hnm := (name_of_methodNamed Bd.named Bd.method).1
  have X0 : Stand p l e ({ frames := 0, cells := 0, slots := 0, locals := 0 } : Room) s m #[(.int q1), (.int q2)] below meth c s₁ [] 0 0 := Stand.of_body Bd
  have e0 : s₁.heap = h0 := by rw [← hh, Bd.state]; rfl
  have N0 := Fr.nil n0
  refine own_open fun K hK => ?_
  refine own_go (B := s₁.setTop (mkF m 0 #[.val (.int q1), .val (.int q2)] [])) (fun t k => castTop (own_ef_mmax m q1 q2) k) ?_
  refine own_go (B := s₁.setTop (mkF m 1 #[.val (.int q1), .val (.int q2)] [(.int q1)])) (fun t k => XS.iloadN X0.here hx rfl (hb hby own_d5_0) rfl k) ?_
  refine own_go (B := s₁.setTop (mkF m 2 #[.val (.int q1), .val (.int q2)] [(.int q2), (.int q1)])) (fun t k => XS.iloadN X0.here hx rfl (hb hby own_d5_1) rfl k) ?_
  by_cases hc2_24 : q1 < q2
  · refine own_go (B := s₁.setTop (mkF m 9 #[.val (.int q1), .val (.int q2)] [])) (fun t k => XS.icmpYes X0.here hx rfl (pc0 := 2) (pc' := 9) rfl (hb hby own_d5_2) rfl (tlt hc2_24).1 (by decide) (by decide) k) ?_
    refine own_go (B := s₁.setTop (mkF m 10 #[.val (.int q1), .val (.int q2)] [(.int q2)])) (fun t k => XS.iloadN X0.here hx rfl (hb hby own_d5_9) rfl k) ?_
    obtain ⟨fs, hr, hrun, hended, hW, hsame⟩ := X0.leave (v := some (.int q2)) (fun h => by rw [Bd.returns] at h; cases h)
    refine ⟨_, _, own_retI X0 hx Bd.returns (hb hby own_d5_10) hr, hK _ _ ⟨hrun, hended, _, _, rfl, ?_, ⟨_, rfl⟩, hW, hsame.mono (by decide) (by decide)⟩⟩
    show own_Q_mmax Z q1 q2 h0 n0 _ s₁.heap _
    rw [e0]
    exact ⟨(by simp only [own_max, hc2_24, if_true, if_false]), N0, rfl⟩
  · refine own_go (B := s₁.setTop (mkF m 5 #[.val (.int q1), .val (.int q2)] [])) (fun t k => XS.icmpNo X0.here hx rfl (hb hby own_d5_2) rfl (flt hc2_24).1 k) ?_
    refine own_go (B := s₁.setTop (mkF m 6 #[.val (.int q1), .val (.int q2)] [(.int q1)])) (fun t k => XS.iloadN X0.here hx rfl (hb hby own_d5_5) rfl k) ?_
    refine own_go (B := s₁.setTop (mkF m 10 #[.val (.int q1), .val (.int q2)] [(.int q1)])) (fun t k => XS.goto X0.here hx rfl (pc0 := 6) (pc' := 10) rfl (hb hby own_d5_6) (by decide) (by decide) k) ?_
    obtain ⟨fs, hr, hrun, hended, hW, hsame⟩ := X0.leave (v := some (.int q1)) (fun h => by rw [Bd.returns] at h; cases h)
    refine ⟨_, _, own_retI X0 hx Bd.returns (hb hby own_d5_10) hr, hK _ _ ⟨hrun, hended, _, _, rfl, ?_, ⟨_, rfl⟩, hW, hsame.mono (by decide) (by decide)⟩⟩
    show own_Q_mmax Z q1 q2 h0 n0 _ s₁.heap _
    rw [e0]
    exact ⟨(by simp only [own_max, hc2_24, if_true, if_false]), N0, rfl⟩
theorem own_d0_0 : decode prog_19_method_1_code 0 = .ok (.aload_n 0, 1) := by decide +kernel
theorem own_d0_1 : decode prog_19_method_1_code 1 = .ok (.invokespecial 1, 3) := by decide +kernel
theorem own_d0_4 : decode prog_19_method_1_code 4 = .ok (.iload_n 3, 1) := by decide +kernel
theorem own_d0_5 : decode prog_19_method_1_code 5 = .ok (.iload_n 2, 1) := by decide +kernel
theorem own_d0_6 : decode prog_19_method_1_code 6 = .ok (.if_icmp .ge 18, 3) := by decide +kernel
theorem own_d0_24 : decode prog_19_method_1_code 24 = .ok (.aload_n 0, 1) := by decide +kernel
theorem own_d0_25 : decode prog_19_method_1_code 25 = .ok (.iload_n 1, 1) := by decide +kernel
theorem own_d0_26 : decode prog_19_method_1_code 26 = .ok (.putfield 16, 3) := by decide +kernel
theorem own_d0_29 : decode prog_19_method_1_code 29 = .ok (.aload_n 0, 1) := by decide +kernel
theorem own_d0_30 : decode prog_19_method_1_code 30 = .ok (.iload_n 2, 1) := by decide +kernel
theorem own_d0_31 : decode prog_19_method_1_code 31 = .ok (.putfield 22, 3) := by decide +kernel
theorem own_d0_34 : decode prog_19_method_1_code 34 = .ok (.aload_n 0, 1) := by decide +kernel
theorem own_d0_35 : decode prog_19_method_1_code 35 = .ok (.iload_n 3, 1) := by decide +kernel
theorem own_d0_36 : decode prog_19_method_1_code 36 = .ok (.putfield 25, 3) := by decide +kernel
theorem own_d0_39 : decode prog_19_method_1_code 39 = .ok (.aload_n 0, 1) := by decide +kernel
theorem own_d0_40 : decode prog_19_method_1_code 40 = .ok (.iload 4, 2) := by decide +kernel
theorem own_d0_42 : decode prog_19_method_1_code 42 = .ok (.putfield 28, 3) := by decide +kernel
theorem own_d0_45 : decode prog_19_method_1_code 45 = .ok (.aload_n 0, 1) := by decide +kernel
theorem own_d0_46 : decode prog_19_method_1_code 46 = .ok (.iload 5, 2) := by decide +kernel
theorem own_d0_48 : decode prog_19_method_1_code 48 = .ok (.putfield 31, 3) := by decide +kernel
theorem own_d0_51 : decode prog_19_method_1_code 51 = .ok (.aload_n 0, 1) := by decide +kernel
theorem own_d0_52 : decode prog_19_method_1_code 52 = .ok (.iload 6, 2) := by decide +kernel
theorem own_d0_54 : decode prog_19_method_1_code 54 = .ok (.putfield 34, 3) := by decide +kernel
theorem own_d0_57 : decode prog_19_method_1_code 57 = .ok (.return_, 1) := by decide +kernel
theorem own_pn_2 : plainName "com/example/helm_of_panes/helmofpanes/input/AbsoluteAxis" = true := by first | (simp [plainName, overriddenIn]; done) | decide +kernel
theorem own_ef_ainit (m : MethodId) (x0 : Addr) (x1 : Int32) (x2 : Int32) (x3 : Int32) (x4 : Int32) (x5 : Int32) (x6 : Int32)  : entryFrame m #[(.ref x0), (.int x1), (.int x2), (.int x3), (.int x4), (.int x5), (.int x6)] 7 = mkF m 0 #[.val (.ref x0), .val (.int x1), .val (.int x2), .val (.int x3), .val (.int x4), .val (.int x5), .val (.int x6)] [] := by first | (simp [entryFrame, mkF, argsToLocals, Value.category]; done) | rfl
def own_Q_ainit (Z : State) (a : Addr) (x1 x2 x3 x4 x5 x6 : Int32) (h0 : Heap) (n0 : Nat) (v : Option Value) (h : Heap) (L : List Loc) : Prop := v = none ∧ Fr n0 L ∧ Keep h0 h [a] ∧ Exa Z h a "com/example/helm_of_panes/helmofpanes/input/AbsoluteAxis" ∧ Fld Z h a "com/example/helm_of_panes/helmofpanes/input/AbsoluteAxis" "code" "I" (.int x1) ∧ Fld Z h a "com/example/helm_of_panes/helmofpanes/input/AbsoluteAxis" "minimum" "I" (.int x2) ∧ Fld Z h a "com/example/helm_of_panes/helmofpanes/input/AbsoluteAxis" "maximum" "I" (.int x3) ∧ Fld Z h a "com/example/helm_of_panes/helmofpanes/input/AbsoluteAxis" "fuzz" "I" (.int x4) ∧ Fld Z h a "com/example/helm_of_panes/helmofpanes/input/AbsoluteAxis" "flat" "I" (.int x5) ∧ Fld Z h a "com/example/helm_of_panes/helmofpanes/input/AbsoluteAxis" "resolution" "I" (.int x6)
set_option maxRecDepth 65536 in
set_option maxHeartbeats 40000000 in
theorem own_rm_ainit (l : Launch) (Z : State) (a0 : Array Value) (hw : ∀ d ∈ tables_1, d.before a0 Z = true) (ws : List Jvm.Cond) (a : Addr) (x1 x2 x3 x4 x5 x6 : Int32) (h0 : Heap) (n0 : Nat) (O0 : Old Z n0 h0) (E0 : Exa Z h0 a "com/example/helm_of_panes/helmofpanes/input/AbsoluteAxis") (g0 : n0 ≤ a) (F0 : Fld Z h0 a "com/example/helm_of_panes/helmofpanes/input/AbsoluteAxis" "code" "I" (.int (0 : Int32))) (F1 : Fld Z h0 a "com/example/helm_of_panes/helmofpanes/input/AbsoluteAxis" "minimum" "I" (.int (0 : Int32))) (F2 : Fld Z h0 a "com/example/helm_of_panes/helmofpanes/input/AbsoluteAxis" "maximum" "I" (.int (0 : Int32))) (F3 : Fld Z h0 a "com/example/helm_of_panes/helmofpanes/input/AbsoluteAxis" "fuzz" "I" (.int (0 : Int32))) (F4 : Fld Z h0 a "com/example/helm_of_panes/helmofpanes/input/AbsoluteAxis" "flat" "I" (.int (0 : Int32))) (F5 : Fld Z h0 a "com/example/helm_of_panes/helmofpanes/input/AbsoluteAxis" "resolution" "I" (.int (0 : Int32))) (c1 : ¬ (x3 < x2)) :
    MetFree l (⟨"com/example/helm_of_panes/helmofpanes/input/AbsoluteAxis", "<init>", "(IIIIII)V"⟩ : MethodName) (head1 (Jvm.Cond.code (⟨"com/example/helm_of_panes/helmofpanes/input/AbsoluteAxis", "<init>", "(IIIIII)V"⟩ : MethodName) prog_19_method_1_code 7 none :: ws) ({ frames := 1, cells := 0, slots := 0, locals := 12 } : Room)) (fun ar9 U => ar9 = #[(.ref a), (.int x1), (.int x2), (.int x3), (.int x4), (.int x5), (.int x6)] ∧ Z.Warmed39 U.vm ∧ U.heap = h0) (fun _ _ _ _ _ => True) (fun _ U o U' => ∃ v L, o = .returned v ∧ own_Q_ainit Z a x1 x2 x3 x4 x5 x6 h0 n0 v U'.heap L ∧ FrameEnd U o U' L ({ frames := 1, cells := 0, slots := 0, locals := 12 } : Room).cells ({ frames := 1, cells := 0, slots := 0, locals := 12 } : Room).slots) := by
  refine MetFree.of_bodySF (plainFor_of_name own_pn_2) hisR ?_
  intro p e s m args below meth c s₁ Bd hml0 hP hK0
  obtain ⟨rfl, hZ, hh⟩ := hP
  have hx := Bd.exec
  have hby := Bd.bytes
  have hml : c.maxLocals = 7 := hml0
  have hown : s.vm.findClass "com/example/helm_of_panes/helmofpanes/input/AbsoluteAxis" = some m.cls := findClass_of_methodNamed Bd.named
  have hnm := (name_of_methodNamed Bd.named Bd.method).1
  have X0 : Stand p l e ({ frames := 1, cells := 0, slots := 0, locals := 12 } : Room) s m #[(.ref a), (.int x1), (.int x2), (.int x3), (.int x4), (.int x5), (.int x6)] below meth c s₁ [] 0 0 := Stand.of_body Bd
  have e0 : s₁.heap = h0 := by rw [← hh, Bd.state]; rfl
  have N0 := Fr.nil n0
  have K0 := Keep.refl h0 [a]
  refine own_open fun K hK => ?_
  refine own_go (B := s₁.setTop (mkF m 0 #[.val (.ref a), .val (.int x1), .val (.int x2), .val (.int x3), .val (.int x4), .val (.int x5), .val (.int x6)] [])) (fun t k => castTop (own_ef_ainit m a x1 x2 x3 x4 x5 x6) k) ?_
  refine own_go (B := s₁.setTop (mkF m 1 #[.val (.ref a), .val (.int x1), .val (.int x2), .val (.int x3), .val (.int x4), .val (.int x5), .val (.int x6)] [(.ref a)])) (fun t k => XS.aloadN X0.here hx rfl (hb hby own_d0_0) rfl rfl k) ?_
  obtain ⟨T27, X27, e27, st27⟩ := initO X0 hx hZ hown (hw _ (List.mem_of_getElem? (i := 13) rfl)) (hw _ (List.mem_of_getElem? (i := 14) rfl)) (hw _ (List.mem_of_getElem? (i := 15) rfl)) e0 (g := (mkF m 1 #[.val (.ref a), .val (.int x1), .val (.int x2), .val (.int x3), .val (.int x4), .val (.int x5), .val (.int x6)] [(.ref a)])) rfl (by rw [hml]; rfl) rfl (hb hby own_d0_1) (by decide) (W := 0) (by show 2 * 0 + _ ≤ _; exact Nat.le_of_eq rfl) (by decide)
  refine own_go (B := T27.setTop (mkF m 4 #[.val (.ref a), .val (.int x1), .val (.int x2), .val (.int x3), .val (.int x4), .val (.int x5), .val (.int x6)] [])) (fun t k => st27 _ k) ?_
  refine own_go (B := T27.setTop (mkF m 5 #[.val (.ref a), .val (.int x1), .val (.int x2), .val (.int x3), .val (.int x4), .val (.int x5), .val (.int x6)] [(.int x3)])) (fun t k => XS.iloadN X27.here hx rfl (hb hby own_d0_4) rfl k) ?_
  refine own_go (B := T27.setTop (mkF m 6 #[.val (.ref a), .val (.int x1), .val (.int x2), .val (.int x3), .val (.int x4), .val (.int x5), .val (.int x6)] [(.int x2), (.int x3)])) (fun t k => XS.iloadN X27.here hx rfl (hb hby own_d0_5) rfl k) ?_
  refine own_go (B := T27.setTop (mkF m 24 #[.val (.ref a), .val (.int x1), .val (.int x2), .val (.int x3), .val (.int x4), .val (.int x5), .val (.int x6)] [])) (fun t k => XS.icmpYes X27.here hx rfl (pc0 := 6) (pc' := 24) rfl (hb hby own_d0_6) rfl (flt c1).2.1 (by decide) (by decide) k) ?_
  refine own_go (B := T27.setTop (mkF m 25 #[.val (.ref a), .val (.int x1), .val (.int x2), .val (.int x3), .val (.int x4), .val (.int x5), .val (.int x6)] [(.ref a)])) (fun t k => XS.aloadN X27.here hx rfl (hb hby own_d0_24) rfl rfl k) ?_
  refine own_go (B := T27.setTop (mkF m 26 #[.val (.ref a), .val (.int x1), .val (.int x2), .val (.int x3), .val (.int x4), .val (.int x5), .val (.int x6)] [(.int x1), (.ref a)])) (fun t k => XS.iloadN X27.here hx rfl (hb hby own_d0_25) rfl k) ?_
  obtain ⟨T29, h29, X29, e29, W29, st29⟩ := putF X27 hx hZ hown (host := "") (Or.inl (hw _ (List.mem_of_getElem? (i := 16) rfl))) Via.refl e27 F0 E0 (Or.inr ⟨(hw _ (List.mem_of_getElem? (i := 17) rfl)), rfl, hnm⟩) (hw _ (List.mem_of_getElem? (i := 8) rfl)) (ty := .int) (by decide) rfl rfl (g := (mkF m 26 #[.val (.ref a), .val (.int x1), .val (.int x2), .val (.int x3), .val (.int x4), .val (.int x5), .val (.int x6)] [(.int x1), (.ref a)])) rfl rfl (hb hby own_d0_26)
  have Fw29 := F0.same W29
  have N29 := Fr.snoc X29 N0 g0
  have O29 := O0.wr W29 g0
  have K29 := K0.wr W29 (Or.inl (by simp))
  refine own_go (B := T29.setTop (mkF m 29 #[.val (.ref a), .val (.int x1), .val (.int x2), .val (.int x3), .val (.int x4), .val (.int x5), .val (.int x6)] [])) (fun t k => st29 _ k) ?_
  refine own_go (B := T29.setTop (mkF m 30 #[.val (.ref a), .val (.int x1), .val (.int x2), .val (.int x3), .val (.int x4), .val (.int x5), .val (.int x6)] [(.ref a)])) (fun t k => XS.aloadN X29.here hx rfl (hb hby own_d0_29) rfl rfl k) ?_
  refine own_go (B := T29.setTop (mkF m 31 #[.val (.ref a), .val (.int x1), .val (.int x2), .val (.int x3), .val (.int x4), .val (.int x5), .val (.int x6)] [(.int x2), (.ref a)])) (fun t k => XS.iloadN X29.here hx rfl (hb hby own_d0_30) rfl k) ?_
  have f30 := (F1.other W29 (Or.inr (slot_ne (Or.inr (hw _ (List.mem_of_getElem? (i := 19) rfl))) (Or.inr (hw _ (List.mem_of_getElem? (i := 17) rfl))) (by decide) (t := .int) (t' := .int) (by decide) (by decide))))
  have f31 := (E0.wr W29)
  obtain ⟨T32, h32, X32, e32, W32, st32⟩ := putF X29 hx hZ hown (host := "") (Or.inl (hw _ (List.mem_of_getElem? (i := 18) rfl))) Via.refl e29 f30 f31 (Or.inr ⟨(hw _ (List.mem_of_getElem? (i := 19) rfl)), rfl, hnm⟩) (hw _ (List.mem_of_getElem? (i := 8) rfl)) (ty := .int) (by decide) rfl rfl (g := (mkF m 31 #[.val (.ref a), .val (.int x1), .val (.int x2), .val (.int x3), .val (.int x4), .val (.int x5), .val (.int x6)] [(.int x2), (.ref a)])) rfl rfl (hb hby own_d0_31)
  have Fw32 := f30.same W32
  have N32 := Fr.snoc X32 N29 g0
  have O32 := O29.wr W32 g0
  have K32 := K29.wr W32 (Or.inl (by simp))
  refine own_go (B := T32.setTop (mkF m 34 #[.val (.ref a), .val (.int x1), .val (.int x2), .val (.int x3), .val (.int x4), .val (.int x5), .val (.int x6)] [])) (fun t k => st32 _ k) ?_
  refine own_go (B := T32.setTop (mkF m 35 #[.val (.ref a), .val (.int x1), .val (.int x2), .val (.int x3), .val (.int x4), .val (.int x5), .val (.int x6)] [(.ref a)])) (fun t k => XS.aloadN X32.here hx rfl (hb hby own_d0_34) rfl rfl k) ?_
  refine own_go (B := T32.setTop (mkF m 36 #[.val (.ref a), .val (.int x1), .val (.int x2), .val (.int x3), .val (.int x4), .val (.int x5), .val (.int x6)] [(.int x3), (.ref a)])) (fun t k => XS.iloadN X32.here hx rfl (hb hby own_d0_35) rfl k) ?_
  have f33 := ((F2.other W29 (Or.inr (slot_ne (Or.inr (hw _ (List.mem_of_getElem? (i := 21) rfl))) (Or.inr (hw _ (List.mem_of_getElem? (i := 17) rfl))) (by decide) (t := .int) (t' := .int) (by decide) (by decide)))).other W32 (Or.inr (slot_ne (Or.inr (hw _ (List.mem_of_getElem? (i := 21) rfl))) (Or.inr (hw _ (List.mem_of_getElem? (i := 19) rfl))) (by decide) (t := .int) (t' := .int) (by decide) (by decide))))
  have f34 := (f31.wr W32)
  obtain ⟨T35, h35, X35, e35, W35, st35⟩ := putF X32 hx hZ hown (host := "") (Or.inl (hw _ (List.mem_of_getElem? (i := 20) rfl))) Via.refl e32 f33 f34 (Or.inr ⟨(hw _ (List.mem_of_getElem? (i := 21) rfl)), rfl, hnm⟩) (hw _ (List.mem_of_getElem? (i := 8) rfl)) (ty := .int) (by decide) rfl rfl (g := (mkF m 36 #[.val (.ref a), .val (.int x1), .val (.int x2), .val (.int x3), .val (.int x4), .val (.int x5), .val (.int x6)] [(.int x3), (.ref a)])) rfl rfl (hb hby own_d0_36)
  have Fw35 := f33.same W35
  have N35 := Fr.snoc X35 N32 g0
  have O35 := O32.wr W35 g0
  have K35 := K32.wr W35 (Or.inl (by simp))
  refine own_go (B := T35.setTop (mkF m 39 #[.val (.ref a), .val (.int x1), .val (.int x2), .val (.int x3), .val (.int x4), .val (.int x5), .val (.int x6)] [])) (fun t k => st35 _ k) ?_
  refine own_go (B := T35.setTop (mkF m 40 #[.val (.ref a), .val (.int x1), .val (.int x2), .val (.int x3), .val (.int x4), .val (.int x5), .val (.int x6)] [(.ref a)])) (fun t k => XS.aloadN X35.here hx rfl (hb hby own_d0_39) rfl rfl k) ?_
  refine own_go (B := T35.setTop (mkF m 42 #[.val (.ref a), .val (.int x1), .val (.int x2), .val (.int x3), .val (.int x4), .val (.int x5), .val (.int x6)] [(.int x4), (.ref a)])) (fun t k => XS.iload X35.here hx rfl (hb hby own_d0_40) rfl k) ?_
  have f36 := (((F3.other W29 (Or.inr (slot_ne (Or.inr (hw _ (List.mem_of_getElem? (i := 23) rfl))) (Or.inr (hw _ (List.mem_of_getElem? (i := 17) rfl))) (by decide) (t := .int) (t' := .int) (by decide) (by decide)))).other W32 (Or.inr (slot_ne (Or.inr (hw _ (List.mem_of_getElem? (i := 23) rfl))) (Or.inr (hw _ (List.mem_of_getElem? (i := 19) rfl))) (by decide) (t := .int) (t' := .int) (by decide) (by decide)))).other W35 (Or.inr (slot_ne (Or.inr (hw _ (List.mem_of_getElem? (i := 23) rfl))) (Or.inr (hw _ (List.mem_of_getElem? (i := 21) rfl))) (by decide) (t := .int) (t' := .int) (by decide) (by decide))))
  have f37 := (f34.wr W35)
  obtain ⟨T38, h38, X38, e38, W38, st38⟩ := putF X35 hx hZ hown (host := "") (Or.inl (hw _ (List.mem_of_getElem? (i := 22) rfl))) Via.refl e35 f36 f37 (Or.inr ⟨(hw _ (List.mem_of_getElem? (i := 23) rfl)), rfl, hnm⟩) (hw _ (List.mem_of_getElem? (i := 8) rfl)) (ty := .int) (by decide) rfl rfl (g := (mkF m 42 #[.val (.ref a), .val (.int x1), .val (.int x2), .val (.int x3), .val (.int x4), .val (.int x5), .val (.int x6)] [(.int x4), (.ref a)])) rfl rfl (hb hby own_d0_42)
  have Fw38 := f36.same W38
  have N38 := Fr.snoc X38 N35 g0
  have O38 := O35.wr W38 g0
  have K38 := K35.wr W38 (Or.inl (by simp))
  refine own_go (B := T38.setTop (mkF m 45 #[.val (.ref a), .val (.int x1), .val (.int x2), .val (.int x3), .val (.int x4), .val (.int x5), .val (.int x6)] [])) (fun t k => st38 _ k) ?_
  refine own_go (B := T38.setTop (mkF m 46 #[.val (.ref a), .val (.int x1), .val (.int x2), .val (.int x3), .val (.int x4), .val (.int x5), .val (.int x6)] [(.ref a)])) (fun t k => XS.aloadN X38.here hx rfl (hb hby own_d0_45) rfl rfl k) ?_
  refine own_go (B := T38.setTop (mkF m 48 #[.val (.ref a), .val (.int x1), .val (.int x2), .val (.int x3), .val (.int x4), .val (.int x5), .val (.int x6)] [(.int x5), (.ref a)])) (fun t k => XS.iload X38.here hx rfl (hb hby own_d0_46) rfl k) ?_
  have f39 := ((((F4.other W29 (Or.inr (slot_ne (Or.inr (hw _ (List.mem_of_getElem? (i := 25) rfl))) (Or.inr (hw _ (List.mem_of_getElem? (i := 17) rfl))) (by decide) (t := .int) (t' := .int) (by decide) (by decide)))).other W32 (Or.inr (slot_ne (Or.inr (hw _ (List.mem_of_getElem? (i := 25) rfl))) (Or.inr (hw _ (List.mem_of_getElem? (i := 19) rfl))) (by decide) (t := .int) (t' := .int) (by decide) (by decide)))).other W35 (Or.inr (slot_ne (Or.inr (hw _ (List.mem_of_getElem? (i := 25) rfl))) (Or.inr (hw _ (List.mem_of_getElem? (i := 21) rfl))) (by decide) (t := .int) (t' := .int) (by decide) (by decide)))).other W38 (Or.inr (slot_ne (Or.inr (hw _ (List.mem_of_getElem? (i := 25) rfl))) (Or.inr (hw _ (List.mem_of_getElem? (i := 23) rfl))) (by decide) (t := .int) (t' := .int) (by decide) (by decide))))
  have f40 := (f37.wr W38)
  obtain ⟨T41, h41, X41, e41, W41, st41⟩ := putF X38 hx hZ hown (host := "") (Or.inl (hw _ (List.mem_of_getElem? (i := 24) rfl))) Via.refl e38 f39 f40 (Or.inr ⟨(hw _ (List.mem_of_getElem? (i := 25) rfl)), rfl, hnm⟩) (hw _ (List.mem_of_getElem? (i := 8) rfl)) (ty := .int) (by decide) rfl rfl (g := (mkF m 48 #[.val (.ref a), .val (.int x1), .val (.int x2), .val (.int x3), .val (.int x4), .val (.int x5), .val (.int x6)] [(.int x5), (.ref a)])) rfl rfl (hb hby own_d0_48)
  have Fw41 := f39.same W41
  have N41 := Fr.snoc X41 N38 g0
  have O41 := O38.wr W41 g0
  have K41 := K38.wr W41 (Or.inl (by simp))
  refine own_go (B := T41.setTop (mkF m 51 #[.val (.ref a), .val (.int x1), .val (.int x2), .val (.int x3), .val (.int x4), .val (.int x5), .val (.int x6)] [])) (fun t k => st41 _ k) ?_
  refine own_go (B := T41.setTop (mkF m 52 #[.val (.ref a), .val (.int x1), .val (.int x2), .val (.int x3), .val (.int x4), .val (.int x5), .val (.int x6)] [(.ref a)])) (fun t k => XS.aloadN X41.here hx rfl (hb hby own_d0_51) rfl rfl k) ?_
  refine own_go (B := T41.setTop (mkF m 54 #[.val (.ref a), .val (.int x1), .val (.int x2), .val (.int x3), .val (.int x4), .val (.int x5), .val (.int x6)] [(.int x6), (.ref a)])) (fun t k => XS.iload X41.here hx rfl (hb hby own_d0_52) rfl k) ?_
  have f42 := (((((F5.other W29 (Or.inr (slot_ne (Or.inr (hw _ (List.mem_of_getElem? (i := 27) rfl))) (Or.inr (hw _ (List.mem_of_getElem? (i := 17) rfl))) (by decide) (t := .int) (t' := .int) (by decide) (by decide)))).other W32 (Or.inr (slot_ne (Or.inr (hw _ (List.mem_of_getElem? (i := 27) rfl))) (Or.inr (hw _ (List.mem_of_getElem? (i := 19) rfl))) (by decide) (t := .int) (t' := .int) (by decide) (by decide)))).other W35 (Or.inr (slot_ne (Or.inr (hw _ (List.mem_of_getElem? (i := 27) rfl))) (Or.inr (hw _ (List.mem_of_getElem? (i := 21) rfl))) (by decide) (t := .int) (t' := .int) (by decide) (by decide)))).other W38 (Or.inr (slot_ne (Or.inr (hw _ (List.mem_of_getElem? (i := 27) rfl))) (Or.inr (hw _ (List.mem_of_getElem? (i := 23) rfl))) (by decide) (t := .int) (t' := .int) (by decide) (by decide)))).other W41 (Or.inr (slot_ne (Or.inr (hw _ (List.mem_of_getElem? (i := 27) rfl))) (Or.inr (hw _ (List.mem_of_getElem? (i := 25) rfl))) (by decide) (t := .int) (t' := .int) (by decide) (by decide))))
  have f43 := (f40.wr W41)
  obtain ⟨T44, h44, X44, e44, W44, st44⟩ := putF X41 hx hZ hown (host := "") (Or.inl (hw _ (List.mem_of_getElem? (i := 26) rfl))) Via.refl e41 f42 f43 (Or.inr ⟨(hw _ (List.mem_of_getElem? (i := 27) rfl)), rfl, hnm⟩) (hw _ (List.mem_of_getElem? (i := 8) rfl)) (ty := .int) (by decide) rfl rfl (g := (mkF m 54 #[.val (.ref a), .val (.int x1), .val (.int x2), .val (.int x3), .val (.int x4), .val (.int x5), .val (.int x6)] [(.int x6), (.ref a)])) rfl rfl (hb hby own_d0_54)
  have Fw44 := f42.same W44
  have N44 := Fr.snoc X44 N41 g0
  have O44 := O41.wr W44 g0
  have K44 := K41.wr W44 (Or.inl (by simp))
  refine own_go (B := T44.setTop (mkF m 57 #[.val (.ref a), .val (.int x1), .val (.int x2), .val (.int x3), .val (.int x4), .val (.int x5), .val (.int x6)] [])) (fun t k => st44 _ k) ?_
  obtain ⟨fs, hr, hrun, hended, hW, hsame⟩ := X44.leave (v := none) (fun _ => rfl)
  have f46 := (f43.wr W44)
  have f47 := (((((Fw29.other W32 (Or.inr (slot_ne (Or.inr (hw _ (List.mem_of_getElem? (i := 17) rfl))) (Or.inr (hw _ (List.mem_of_getElem? (i := 19) rfl))) (by decide) (t := .int) (t' := .int) (by decide) (by decide)))).other W35 (Or.inr (slot_ne (Or.inr (hw _ (List.mem_of_getElem? (i := 17) rfl))) (Or.inr (hw _ (List.mem_of_getElem? (i := 21) rfl))) (by decide) (t := .int) (t' := .int) (by decide) (by decide)))).other W38 (Or.inr (slot_ne (Or.inr (hw _ (List.mem_of_getElem? (i := 17) rfl))) (Or.inr (hw _ (List.mem_of_getElem? (i := 23) rfl))) (by decide) (t := .int) (t' := .int) (by decide) (by decide)))).other W41 (Or.inr (slot_ne (Or.inr (hw _ (List.mem_of_getElem? (i := 17) rfl))) (Or.inr (hw _ (List.mem_of_getElem? (i := 25) rfl))) (by decide) (t := .int) (t' := .int) (by decide) (by decide)))).other W44 (Or.inr (slot_ne (Or.inr (hw _ (List.mem_of_getElem? (i := 17) rfl))) (Or.inr (hw _ (List.mem_of_getElem? (i := 27) rfl))) (by decide) (t := .int) (t' := .int) (by decide) (by decide))))
  have f48 := ((((Fw32.other W35 (Or.inr (slot_ne (Or.inr (hw _ (List.mem_of_getElem? (i := 19) rfl))) (Or.inr (hw _ (List.mem_of_getElem? (i := 21) rfl))) (by decide) (t := .int) (t' := .int) (by decide) (by decide)))).other W38 (Or.inr (slot_ne (Or.inr (hw _ (List.mem_of_getElem? (i := 19) rfl))) (Or.inr (hw _ (List.mem_of_getElem? (i := 23) rfl))) (by decide) (t := .int) (t' := .int) (by decide) (by decide)))).other W41 (Or.inr (slot_ne (Or.inr (hw _ (List.mem_of_getElem? (i := 19) rfl))) (Or.inr (hw _ (List.mem_of_getElem? (i := 25) rfl))) (by decide) (t := .int) (t' := .int) (by decide) (by decide)))).other W44 (Or.inr (slot_ne (Or.inr (hw _ (List.mem_of_getElem? (i := 19) rfl))) (Or.inr (hw _ (List.mem_of_getElem? (i := 27) rfl))) (by decide) (t := .int) (t' := .int) (by decide) (by decide))))
  have f49 := (((Fw35.other W38 (Or.inr (slot_ne (Or.inr (hw _ (List.mem_of_getElem? (i := 21) rfl))) (Or.inr (hw _ (List.mem_of_getElem? (i := 23) rfl))) (by decide) (t := .int) (t' := .int) (by decide) (by decide)))).other W41 (Or.inr (slot_ne (Or.inr (hw _ (List.mem_of_getElem? (i := 21) rfl))) (Or.inr (hw _ (List.mem_of_getElem? (i := 25) rfl))) (by decide) (t := .int) (t' := .int) (by decide) (by decide)))).other W44 (Or.inr (slot_ne (Or.inr (hw _ (List.mem_of_getElem? (i := 21) rfl))) (Or.inr (hw _ (List.mem_of_getElem? (i := 27) rfl))) (by decide) (t := .int) (t' := .int) (by decide) (by decide))))
  have f50 := ((Fw38.other W41 (Or.inr (slot_ne (Or.inr (hw _ (List.mem_of_getElem? (i := 23) rfl))) (Or.inr (hw _ (List.mem_of_getElem? (i := 25) rfl))) (by decide) (t := .int) (t' := .int) (by decide) (by decide)))).other W44 (Or.inr (slot_ne (Or.inr (hw _ (List.mem_of_getElem? (i := 23) rfl))) (Or.inr (hw _ (List.mem_of_getElem? (i := 27) rfl))) (by decide) (t := .int) (t' := .int) (by decide) (by decide))))
  have f51 := (Fw41.other W44 (Or.inr (slot_ne (Or.inr (hw _ (List.mem_of_getElem? (i := 25) rfl))) (Or.inr (hw _ (List.mem_of_getElem? (i := 27) rfl))) (by decide) (t := .int) (t' := .int) (by decide) (by decide))))
  refine ⟨_, _, X44.returnOut hx Bd.returns (hb hby own_d0_57) hr, hK _ _ ⟨hrun, hended, _, _, rfl, ?_, ⟨_, rfl⟩, hW, hsame.mono (by decide) (by decide)⟩⟩
  show own_Q_ainit Z a x1 x2 x3 x4 x5 x6 h0 n0 _ T44.heap _
  rw [e44]
  exact ⟨rfl, N44, K44, f46, f47, f48, f49, f50, f51, Fw44⟩
theorem own_d1_0 : decode prog_19_method_9_code 0 = .ok (.aload_n 0, 1) := by decide +kernel
theorem own_d1_1 : decode prog_19_method_9_code 1 = .ok (.aload_n 1, 1) := by decide +kernel
theorem own_d1_2 : decode prog_19_method_9_code 2 = .ok (.if_acmp .ne 5, 3) := by decide +kernel
theorem own_d1_7 : decode prog_19_method_9_code 7 = .ok (.aload_n 1, 1) := by decide +kernel
theorem own_d1_8 : decode prog_19_method_9_code 8 = .ok (.instanceof 17, 3) := by decide +kernel
theorem own_d1_11 : decode prog_19_method_9_code 11 = .ok (.ifCond .eq 11, 3) := by decide +kernel
theorem own_d1_14 : decode prog_19_method_9_code 14 = .ok (.aload_n 1, 1) := by decide +kernel
theorem own_d1_15 : decode prog_19_method_9_code 15 = .ok (.checkcast 17, 3) := by decide +kernel
theorem own_d1_18 : decode prog_19_method_9_code 18 = .ok (.astore_n 2, 1) := by decide +kernel
theorem own_d1_19 : decode prog_19_method_9_code 19 = .ok (.goto 5, 3) := by decide +kernel
theorem own_d1_24 : decode prog_19_method_9_code 24 = .ok (.aload_n 0, 1) := by decide +kernel
theorem own_d1_25 : decode prog_19_method_9_code 25 = .ok (.getfield 16, 3) := by decide +kernel
theorem own_d1_28 : decode prog_19_method_9_code 28 = .ok (.aload_n 2, 1) := by decide +kernel
theorem own_d1_29 : decode prog_19_method_9_code 29 = .ok (.getfield 16, 3) := by decide +kernel
theorem own_d1_32 : decode prog_19_method_9_code 32 = .ok (.if_icmp .ne 62, 3) := by decide +kernel
theorem own_d1_35 : decode prog_19_method_9_code 35 = .ok (.aload_n 0, 1) := by decide +kernel
theorem own_d1_36 : decode prog_19_method_9_code 36 = .ok (.getfield 22, 3) := by decide +kernel
theorem own_d1_39 : decode prog_19_method_9_code 39 = .ok (.aload_n 2, 1) := by decide +kernel
theorem own_d1_40 : decode prog_19_method_9_code 40 = .ok (.getfield 22, 3) := by decide +kernel
theorem own_d1_43 : decode prog_19_method_9_code 43 = .ok (.if_icmp .ne 51, 3) := by decide +kernel
theorem own_d1_46 : decode prog_19_method_9_code 46 = .ok (.aload_n 0, 1) := by decide +kernel
theorem own_d1_47 : decode prog_19_method_9_code 47 = .ok (.getfield 25, 3) := by decide +kernel
theorem own_d1_50 : decode prog_19_method_9_code 50 = .ok (.aload_n 2, 1) := by decide +kernel
theorem own_d1_51 : decode prog_19_method_9_code 51 = .ok (.getfield 25, 3) := by decide +kernel
theorem own_d1_54 : decode prog_19_method_9_code 54 = .ok (.if_icmp .ne 40, 3) := by decide +kernel
theorem own_d1_57 : decode prog_19_method_9_code 57 = .ok (.aload_n 0, 1) := by decide +kernel
theorem own_d1_58 : decode prog_19_method_9_code 58 = .ok (.getfield 28, 3) := by decide +kernel
theorem own_d1_61 : decode prog_19_method_9_code 61 = .ok (.aload_n 2, 1) := by decide +kernel
theorem own_d1_62 : decode prog_19_method_9_code 62 = .ok (.getfield 28, 3) := by decide +kernel
theorem own_d1_65 : decode prog_19_method_9_code 65 = .ok (.if_icmp .ne 29, 3) := by decide +kernel
theorem own_d1_68 : decode prog_19_method_9_code 68 = .ok (.aload_n 0, 1) := by decide +kernel
theorem own_d1_69 : decode prog_19_method_9_code 69 = .ok (.getfield 31, 3) := by decide +kernel
theorem own_d1_72 : decode prog_19_method_9_code 72 = .ok (.aload_n 2, 1) := by decide +kernel
theorem own_d1_73 : decode prog_19_method_9_code 73 = .ok (.getfield 31, 3) := by decide +kernel
theorem own_d1_76 : decode prog_19_method_9_code 76 = .ok (.if_icmp .ne 18, 3) := by decide +kernel
theorem own_d1_79 : decode prog_19_method_9_code 79 = .ok (.aload_n 0, 1) := by decide +kernel
theorem own_d1_80 : decode prog_19_method_9_code 80 = .ok (.getfield 34, 3) := by decide +kernel
theorem own_d1_83 : decode prog_19_method_9_code 83 = .ok (.aload_n 2, 1) := by decide +kernel
theorem own_d1_84 : decode prog_19_method_9_code 84 = .ok (.getfield 34, 3) := by decide +kernel
theorem own_d1_87 : decode prog_19_method_9_code 87 = .ok (.if_icmp .ne 7, 3) := by decide +kernel
theorem own_d1_90 : decode prog_19_method_9_code 90 = .ok (.iconst 1, 1) := by decide +kernel
theorem own_d1_91 : decode prog_19_method_9_code 91 = .ok (.goto 4, 3) := by decide +kernel
theorem own_d1_95 : decode prog_19_method_9_code 95 = .ok (.ireturn, 1) := by decide +kernel
theorem own_d1_94 : decode prog_19_method_9_code 94 = .ok (.iconst 0, 1) := by decide +kernel
theorem own_ef_eqP (m : MethodId) (x0 : Addr) (x1 : Addr)  : entryFrame m #[(.ref x0), (.ref x1)] 3 = mkF m 0 #[.val (.ref x0), .val (.ref x1), .unset] [] := by first | (simp [entryFrame, mkF, argsToLocals, Value.category]; done) | rfl
def own_Q_eqP (Z : State) (a b : Addr) (x1 x2 x3 x4 x5 x6 y1 y2 y3 y4 y5 y6 r : Int32) (h0 : Heap) (n0 : Nat) (v : Option Value) (h : Heap) (L : List Loc) : Prop := v = some (.int r) ∧ Fr n0 L ∧ h = h0
set_option maxRecDepth 65536 in
set_option maxHeartbeats 40000000 in
theorem own_rm_eqP (l : Launch) (Z : State) (a0 : Array Value) (hw : ∀ d ∈ tables_1, d.before a0 Z = true) (ws : List Jvm.Cond) (a b : Addr) (x1 x2 x3 x4 x5 x6 y1 y2 y3 y4 y5 y6 r : Int32) (h0 : Heap) (n0 : Nat) (O0 : Old Z n0 h0) (hne : a ≠ b) (E2 : Exa Z h0 b "com/example/helm_of_panes/helmofpanes/input/AbsoluteAxis") (F0a : Fld Z h0 a "com/example/helm_of_panes/helmofpanes/input/AbsoluteAxis" "code" "I" (.int x1)) (F1a : Fld Z h0 a "com/example/helm_of_panes/helmofpanes/input/AbsoluteAxis" "minimum" "I" (.int x2)) (F2a : Fld Z h0 a "com/example/helm_of_panes/helmofpanes/input/AbsoluteAxis" "maximum" "I" (.int x3)) (F3a : Fld Z h0 a "com/example/helm_of_panes/helmofpanes/input/AbsoluteAxis" "fuzz" "I" (.int x4)) (F4a : Fld Z h0 a "com/example/helm_of_panes/helmofpanes/input/AbsoluteAxis" "flat" "I" (.int x5)) (F5a : Fld Z h0 a "com/example/helm_of_panes/helmofpanes/input/AbsoluteAxis" "resolution" "I" (.int x6)) (F0b : Fld Z h0 b "com/example/helm_of_panes/helmofpanes/input/AbsoluteAxis" "code" "I" (.int y1)) (F1b : Fld Z h0 b "com/example/helm_of_panes/helmofpanes/input/AbsoluteAxis" "minimum" "I" (.int y2)) (F2b : Fld Z h0 b "com/example/helm_of_panes/helmofpanes/input/AbsoluteAxis" "maximum" "I" (.int y3)) (F3b : Fld Z h0 b "com/example/helm_of_panes/helmofpanes/input/AbsoluteAxis" "fuzz" "I" (.int y4)) (F4b : Fld Z h0 b "com/example/helm_of_panes/helmofpanes/input/AbsoluteAxis" "flat" "I" (.int y5)) (F5b : Fld Z h0 b "com/example/helm_of_panes/helmofpanes/input/AbsoluteAxis" "resolution" "I" (.int y6)) (hr0 : r = if x1 = y1 ∧ x2 = y2 ∧ x3 = y3 ∧ x4 = y4 ∧ x5 = y5 ∧ x6 = y6 then 1 else 0) :
    MetFree l (⟨"com/example/helm_of_panes/helmofpanes/input/AbsoluteAxis", "equals", "(Ljava/lang/Object;)Z"⟩ : MethodName) (head1 (Jvm.Cond.code (⟨"com/example/helm_of_panes/helmofpanes/input/AbsoluteAxis", "equals", "(Ljava/lang/Object;)Z"⟩ : MethodName) prog_19_method_9_code 3 (some .boolean) :: ws) ({ frames := 0, cells := 0, slots := 0, locals := 0 } : Room)) (fun ar9 U => ar9 = #[(.ref a), (.ref b)] ∧ Z.Warmed39 U.vm ∧ U.heap = h0) (fun _ _ _ _ _ => True) (fun _ U o U' => ∃ v L, o = .returned v ∧ own_Q_eqP Z a b x1 x2 x3 x4 x5 x6 y1 y2 y3 y4 y5 y6 r h0 n0 v U'.heap L ∧ FrameEnd U o U' L ({ frames := 0, cells := 0, slots := 0, locals := 0 } : Room).cells ({ frames := 0, cells := 0, slots := 0, locals := 0 } : Room).slots) := by
  refine MetFree.of_bodySF (plainFor_of_name own_pn_2) hisR ?_
  intro p e s m args below meth c s₁ Bd hml0 hP hK0
  obtain ⟨rfl, hZ, hh⟩ := hP
  have hx := Bd.exec
  have hby := Bd.bytes
  have hml : c.maxLocals = 3 := hml0
  have hown : s.vm.findClass "com/example/helm_of_panes/helmofpanes/input/AbsoluteAxis" = some m.cls := findClass_of_methodNamed Bd.named
  have hnm := (name_of_methodNamed Bd.named Bd.method).1
  have X0 : Stand p l e ({ frames := 0, cells := 0, slots := 0, locals := 0 } : Room) s m #[(.ref a), (.ref b)] below meth c s₁ [] 0 0 := Stand.of_body Bd
  have e0 : s₁.heap = h0 := by rw [← hh, Bd.state]; rfl
  have N0 := Fr.nil n0
  refine own_open fun K hK => ?_
  refine own_go (B := s₁.setTop (mkF m 0 #[.val (.ref a), .val (.ref b), .unset] [])) (fun t k => castTop (own_ef_eqP m a b) k) ?_
  refine own_go (B := s₁.setTop (mkF m 1 #[.val (.ref a), .val (.ref b), .unset] [(.ref a)])) (fun t k => XS.aloadN X0.here hx rfl (hb hby own_d1_0) rfl rfl k) ?_
  refine own_go (B := s₁.setTop (mkF m 2 #[.val (.ref a), .val (.ref b), .unset] [(.ref b), (.ref a)])) (fun t k => XS.aloadN X0.here hx rfl (hb hby own_d1_1) rfl rfl k) ?_
  refine own_go (B := s₁.setTop (mkF m 7 #[.val (.ref a), .val (.ref b), .unset] [])) (fun t k => Jvm.RoadKit.acmp (g := (mkF m 2 #[.val (.ref a), .val (.ref b), .unset] [(.ref b), (.ref a)])) X0 hx rfl rfl rfl (pc0 := 2) (pc' := 7) (same := false) rfl (hb hby own_d1_2) rfl (decide_eq_false fun q => hne (Value.ref.inj q)) (by decide) (by decide) k) ?_
  refine own_go (B := s₁.setTop (mkF m 8 #[.val (.ref a), .val (.ref b), .unset] [(.ref b)])) (fun t k => XS.aloadN X0.here hx rfl (hb hby own_d1_7) rfl rfl k) ?_
  obtain ⟨T52, X52, e52, st52⟩ := instY X0 hx hZ hown (hw _ (List.mem_of_getElem? (i := 40) rfl)) e0 (Ins.self E2) (g := (mkF m 8 #[.val (.ref a), .val (.ref b), .unset] [(.ref b)])) rfl rfl (hb hby own_d1_8)
  refine own_go (B := T52.setTop (mkF m 11 #[.val (.ref a), .val (.ref b), .unset] [(.int (1 : Int32))])) (fun t k => st52 _ k) ?_
  refine own_go (B := T52.setTop (mkF m 14 #[.val (.ref a), .val (.ref b), .unset] [])) (fun t k => XS.ifNo X52.here hx rfl (hb hby own_d1_11) rfl ((if0 _ _).trans (feq (by decide : ¬ ((1 : Int32) = (0 : Int32)))).1) k) ?_
  refine own_go (B := T52.setTop (mkF m 15 #[.val (.ref a), .val (.ref b), .unset] [(.ref b)])) (fun t k => XS.aloadN X52.here hx rfl (hb hby own_d1_14) rfl rfl k) ?_
  obtain ⟨T54, X54, e54, st54⟩ := castY X52 hx hZ hown (hw _ (List.mem_of_getElem? (i := 40) rfl)) e52 (Ins.self E2) (g := (mkF m 15 #[.val (.ref a), .val (.ref b), .unset] [(.ref b)])) rfl rfl (hb hby own_d1_15)
  refine own_go (B := T54.setTop (mkF m 18 #[.val (.ref a), .val (.ref b), .unset] [(.ref b)])) (fun t k => st54 _ k) ?_
  refine own_go (B := T54.setTop (mkF m 19 #[.val (.ref a), .val (.ref b), .val (.ref b)] [])) (fun t k => XS.astoreN X54.here hx rfl (hb hby own_d1_18) rfl rfl (l' := #[.val (.ref a), .val (.ref b), .val (.ref b)]) rfl k) ?_
  refine own_go (B := T54.setTop (mkF m 24 #[.val (.ref a), .val (.ref b), .val (.ref b)] [])) (fun t k => XS.goto X54.here hx rfl (pc0 := 19) (pc' := 24) rfl (hb hby own_d1_19) (by decide) (by decide) k) ?_
  refine own_go (B := T54.setTop (mkF m 25 #[.val (.ref a), .val (.ref b), .val (.ref b)] [(.ref a)])) (fun t k => XS.aloadN X54.here hx rfl (hb hby own_d1_24) rfl rfl k) ?_
  obtain ⟨T55, X55, e55, st55⟩ := getF X54 hx hZ hown (host := "") (Or.inl (hw _ (List.mem_of_getElem? (i := 16) rfl))) Via.refl e54 F0a (g := (mkF m 25 #[.val (.ref a), .val (.ref b), .val (.ref b)] [(.ref a)])) rfl rfl (hb hby own_d1_25)
  refine own_go (B := T55.setTop (mkF m 28 #[.val (.ref a), .val (.ref b), .val (.ref b)] [(.int x1)])) (fun t k => st55 _ k) ?_
  refine own_go (B := T55.setTop (mkF m 29 #[.val (.ref a), .val (.ref b), .val (.ref b)] [(.ref b), (.int x1)])) (fun t k => XS.aloadN X55.here hx rfl (hb hby own_d1_28) rfl rfl k) ?_
  obtain ⟨T56, X56, e56, st56⟩ := getF X55 hx hZ hown (host := "") (Or.inl (hw _ (List.mem_of_getElem? (i := 16) rfl))) Via.refl e55 F0b (g := (mkF m 29 #[.val (.ref a), .val (.ref b), .val (.ref b)] [(.ref b), (.int x1)])) rfl rfl (hb hby own_d1_29)
  refine own_go (B := T56.setTop (mkF m 32 #[.val (.ref a), .val (.ref b), .val (.ref b)] [(.int y1), (.int x1)])) (fun t k => st56 _ k) ?_
  by_cases hc32_57 : x1 = y1
  · refine own_go (B := T56.setTop (mkF m 35 #[.val (.ref a), .val (.ref b), .val (.ref b)] [])) (fun t k => XS.icmpNo X56.here hx rfl (hb hby own_d1_32) rfl (teq hc32_57).2 k) ?_
    refine own_go (B := T56.setTop (mkF m 36 #[.val (.ref a), .val (.ref b), .val (.ref b)] [(.ref a)])) (fun t k => XS.aloadN X56.here hx rfl (hb hby own_d1_35) rfl rfl k) ?_
    obtain ⟨T58, X58, e58, st58⟩ := getF X56 hx hZ hown (host := "") (Or.inl (hw _ (List.mem_of_getElem? (i := 18) rfl))) Via.refl e56 F1a (g := (mkF m 36 #[.val (.ref a), .val (.ref b), .val (.ref b)] [(.ref a)])) rfl rfl (hb hby own_d1_36)
    refine own_go (B := T58.setTop (mkF m 39 #[.val (.ref a), .val (.ref b), .val (.ref b)] [(.int x2)])) (fun t k => st58 _ k) ?_
    refine own_go (B := T58.setTop (mkF m 40 #[.val (.ref a), .val (.ref b), .val (.ref b)] [(.ref b), (.int x2)])) (fun t k => XS.aloadN X58.here hx rfl (hb hby own_d1_39) rfl rfl k) ?_
    obtain ⟨T59, X59, e59, st59⟩ := getF X58 hx hZ hown (host := "") (Or.inl (hw _ (List.mem_of_getElem? (i := 18) rfl))) Via.refl e58 F1b (g := (mkF m 40 #[.val (.ref a), .val (.ref b), .val (.ref b)] [(.ref b), (.int x2)])) rfl rfl (hb hby own_d1_40)
    refine own_go (B := T59.setTop (mkF m 43 #[.val (.ref a), .val (.ref b), .val (.ref b)] [(.int y2), (.int x2)])) (fun t k => st59 _ k) ?_
    by_cases hc43_60 : x2 = y2
    · refine own_go (B := T59.setTop (mkF m 46 #[.val (.ref a), .val (.ref b), .val (.ref b)] [])) (fun t k => XS.icmpNo X59.here hx rfl (hb hby own_d1_43) rfl (teq hc43_60).2 k) ?_
      refine own_go (B := T59.setTop (mkF m 47 #[.val (.ref a), .val (.ref b), .val (.ref b)] [(.ref a)])) (fun t k => XS.aloadN X59.here hx rfl (hb hby own_d1_46) rfl rfl k) ?_
      obtain ⟨T61, X61, e61, st61⟩ := getF X59 hx hZ hown (host := "") (Or.inl (hw _ (List.mem_of_getElem? (i := 20) rfl))) Via.refl e59 F2a (g := (mkF m 47 #[.val (.ref a), .val (.ref b), .val (.ref b)] [(.ref a)])) rfl rfl (hb hby own_d1_47)
      refine own_go (B := T61.setTop (mkF m 50 #[.val (.ref a), .val (.ref b), .val (.ref b)] [(.int x3)])) (fun t k => st61 _ k) ?_
      refine own_go (B := T61.setTop (mkF m 51 #[.val (.ref a), .val (.ref b), .val (.ref b)] [(.ref b), (.int x3)])) (fun t k => XS.aloadN X61.here hx rfl (hb hby own_d1_50) rfl rfl k) ?_
      obtain ⟨T62, X62, e62, st62⟩ := getF X61 hx hZ hown (host := "") (Or.inl (hw _ (List.mem_of_getElem? (i := 20) rfl))) Via.refl e61 F2b (g := (mkF m 51 #[.val (.ref a), .val (.ref b), .val (.ref b)] [(.ref b), (.int x3)])) rfl rfl (hb hby own_d1_51)
      refine own_go (B := T62.setTop (mkF m 54 #[.val (.ref a), .val (.ref b), .val (.ref b)] [(.int y3), (.int x3)])) (fun t k => st62 _ k) ?_
      by_cases hc54_63 : x3 = y3
      · refine own_go (B := T62.setTop (mkF m 57 #[.val (.ref a), .val (.ref b), .val (.ref b)] [])) (fun t k => XS.icmpNo X62.here hx rfl (hb hby own_d1_54) rfl (teq hc54_63).2 k) ?_
        refine own_go (B := T62.setTop (mkF m 58 #[.val (.ref a), .val (.ref b), .val (.ref b)] [(.ref a)])) (fun t k => XS.aloadN X62.here hx rfl (hb hby own_d1_57) rfl rfl k) ?_
        obtain ⟨T64, X64, e64, st64⟩ := getF X62 hx hZ hown (host := "") (Or.inl (hw _ (List.mem_of_getElem? (i := 22) rfl))) Via.refl e62 F3a (g := (mkF m 58 #[.val (.ref a), .val (.ref b), .val (.ref b)] [(.ref a)])) rfl rfl (hb hby own_d1_58)
        refine own_go (B := T64.setTop (mkF m 61 #[.val (.ref a), .val (.ref b), .val (.ref b)] [(.int x4)])) (fun t k => st64 _ k) ?_
        refine own_go (B := T64.setTop (mkF m 62 #[.val (.ref a), .val (.ref b), .val (.ref b)] [(.ref b), (.int x4)])) (fun t k => XS.aloadN X64.here hx rfl (hb hby own_d1_61) rfl rfl k) ?_
        obtain ⟨T65, X65, e65, st65⟩ := getF X64 hx hZ hown (host := "") (Or.inl (hw _ (List.mem_of_getElem? (i := 22) rfl))) Via.refl e64 F3b (g := (mkF m 62 #[.val (.ref a), .val (.ref b), .val (.ref b)] [(.ref b), (.int x4)])) rfl rfl (hb hby own_d1_62)
        refine own_go (B := T65.setTop (mkF m 65 #[.val (.ref a), .val (.ref b), .val (.ref b)] [(.int y4), (.int x4)])) (fun t k => st65 _ k) ?_
        by_cases hc65_66 : x4 = y4
        · refine own_go (B := T65.setTop (mkF m 68 #[.val (.ref a), .val (.ref b), .val (.ref b)] [])) (fun t k => XS.icmpNo X65.here hx rfl (hb hby own_d1_65) rfl (teq hc65_66).2 k) ?_
          refine own_go (B := T65.setTop (mkF m 69 #[.val (.ref a), .val (.ref b), .val (.ref b)] [(.ref a)])) (fun t k => XS.aloadN X65.here hx rfl (hb hby own_d1_68) rfl rfl k) ?_
          obtain ⟨T67, X67, e67, st67⟩ := getF X65 hx hZ hown (host := "") (Or.inl (hw _ (List.mem_of_getElem? (i := 24) rfl))) Via.refl e65 F4a (g := (mkF m 69 #[.val (.ref a), .val (.ref b), .val (.ref b)] [(.ref a)])) rfl rfl (hb hby own_d1_69)
          refine own_go (B := T67.setTop (mkF m 72 #[.val (.ref a), .val (.ref b), .val (.ref b)] [(.int x5)])) (fun t k => st67 _ k) ?_
          refine own_go (B := T67.setTop (mkF m 73 #[.val (.ref a), .val (.ref b), .val (.ref b)] [(.ref b), (.int x5)])) (fun t k => XS.aloadN X67.here hx rfl (hb hby own_d1_72) rfl rfl k) ?_
          obtain ⟨T68, X68, e68, st68⟩ := getF X67 hx hZ hown (host := "") (Or.inl (hw _ (List.mem_of_getElem? (i := 24) rfl))) Via.refl e67 F4b (g := (mkF m 73 #[.val (.ref a), .val (.ref b), .val (.ref b)] [(.ref b), (.int x5)])) rfl rfl (hb hby own_d1_73)
          refine own_go (B := T68.setTop (mkF m 76 #[.val (.ref a), .val (.ref b), .val (.ref b)] [(.int y5), (.int x5)])) (fun t k => st68 _ k) ?_
          by_cases hc76_69 : x5 = y5
          · refine own_go (B := T68.setTop (mkF m 79 #[.val (.ref a), .val (.ref b), .val (.ref b)] [])) (fun t k => XS.icmpNo X68.here hx rfl (hb hby own_d1_76) rfl (teq hc76_69).2 k) ?_
            refine own_go (B := T68.setTop (mkF m 80 #[.val (.ref a), .val (.ref b), .val (.ref b)] [(.ref a)])) (fun t k => XS.aloadN X68.here hx rfl (hb hby own_d1_79) rfl rfl k) ?_
            obtain ⟨T70, X70, e70, st70⟩ := getF X68 hx hZ hown (host := "") (Or.inl (hw _ (List.mem_of_getElem? (i := 26) rfl))) Via.refl e68 F5a (g := (mkF m 80 #[.val (.ref a), .val (.ref b), .val (.ref b)] [(.ref a)])) rfl rfl (hb hby own_d1_80)
            refine own_go (B := T70.setTop (mkF m 83 #[.val (.ref a), .val (.ref b), .val (.ref b)] [(.int x6)])) (fun t k => st70 _ k) ?_
            refine own_go (B := T70.setTop (mkF m 84 #[.val (.ref a), .val (.ref b), .val (.ref b)] [(.ref b), (.int x6)])) (fun t k => XS.aloadN X70.here hx rfl (hb hby own_d1_83) rfl rfl k) ?_
            obtain ⟨T71, X71, e71, st71⟩ := getF X70 hx hZ hown (host := "") (Or.inl (hw _ (List.mem_of_getElem? (i := 26) rfl))) Via.refl e70 F5b (g := (mkF m 84 #[.val (.ref a), .val (.ref b), .val (.ref b)] [(.ref b), (.int x6)])) rfl rfl (hb hby own_d1_84)
            refine own_go (B := T71.setTop (mkF m 87 #[.val (.ref a), .val (.ref b), .val (.ref b)] [(.int y6), (.int x6)])) (fun t k => st71 _ k) ?_
            by_cases hc87_72 : x6 = y6
            · refine own_go (B := T71.setTop (mkF m 90 #[.val (.ref a), .val (.ref b), .val (.ref b)] [])) (fun t k => XS.icmpNo X71.here hx rfl (hb hby own_d1_87) rfl (teq hc87_72).2 k) ?_
              refine own_go (B := T71.setTop (mkF m 91 #[.val (.ref a), .val (.ref b), .val (.ref b)] [(.int (1 : Int32))])) (fun t k => XS.iconst X71.here hx rfl (hb hby own_d1_90) k) ?_
              refine own_go (B := T71.setTop (mkF m 95 #[.val (.ref a), .val (.ref b), .val (.ref b)] [(.int (1 : Int32))])) (fun t k => XS.goto X71.here hx rfl (pc0 := 91) (pc' := 95) rfl (hb hby own_d1_91) (by decide) (by decide) k) ?_
              obtain ⟨fs, hr, hrun, hended, hW, hsame⟩ := X71.leave (v := some (.int (1 : Int32))) (fun h => by rw [Bd.returns] at h; cases h)
              refine ⟨_, _, retN X71 hx (t := .boolean) Bd.returns (by simp) (hb hby own_d1_95) hr, hK _ _ ⟨hrun, hended, _, _, rfl, ?_, ⟨_, rfl⟩, hW, hsame.mono (by decide) (by decide)⟩⟩
              show own_Q_eqP Z a b x1 x2 x3 x4 x5 x6 y1 y2 y3 y4 y5 y6 r h0 n0 _ T71.heap _
              rw [e71]
              exact ⟨(by rw [hr0]; simp [hc32_57, hc43_60, hc54_63, hc65_66, hc76_69, hc87_72]), N0, rfl⟩
            · refine own_go (B := T71.setTop (mkF m 94 #[.val (.ref a), .val (.ref b), .val (.ref b)] [])) (fun t k => XS.icmpYes X71.here hx rfl (pc0 := 87) (pc' := 94) rfl (hb hby own_d1_87) rfl (feq hc87_72).2 (by decide) (by decide) k) ?_
              refine own_go (B := T71.setTop (mkF m 95 #[.val (.ref a), .val (.ref b), .val (.ref b)] [(.int (0 : Int32))])) (fun t k => XS.iconst X71.here hx rfl (hb hby own_d1_94) k) ?_
              obtain ⟨fs, hr, hrun, hended, hW, hsame⟩ := X71.leave (v := some (.int (0 : Int32))) (fun h => by rw [Bd.returns] at h; cases h)
              refine ⟨_, _, retN X71 hx (t := .boolean) Bd.returns (by simp) (hb hby own_d1_95) hr, hK _ _ ⟨hrun, hended, _, _, rfl, ?_, ⟨_, rfl⟩, hW, hsame.mono (by decide) (by decide)⟩⟩
              show own_Q_eqP Z a b x1 x2 x3 x4 x5 x6 y1 y2 y3 y4 y5 y6 r h0 n0 _ T71.heap _
              rw [e71]
              exact ⟨(by rw [hr0]; simp [hc32_57, hc43_60, hc54_63, hc65_66, hc76_69, hc87_72]), N0, rfl⟩
          · refine own_go (B := T68.setTop (mkF m 94 #[.val (.ref a), .val (.ref b), .val (.ref b)] [])) (fun t k => XS.icmpYes X68.here hx rfl (pc0 := 76) (pc' := 94) rfl (hb hby own_d1_76) rfl (feq hc76_69).2 (by decide) (by decide) k) ?_
            refine own_go (B := T68.setTop (mkF m 95 #[.val (.ref a), .val (.ref b), .val (.ref b)] [(.int (0 : Int32))])) (fun t k => XS.iconst X68.here hx rfl (hb hby own_d1_94) k) ?_
            obtain ⟨fs, hr, hrun, hended, hW, hsame⟩ := X68.leave (v := some (.int (0 : Int32))) (fun h => by rw [Bd.returns] at h; cases h)
            refine ⟨_, _, retN X68 hx (t := .boolean) Bd.returns (by simp) (hb hby own_d1_95) hr, hK _ _ ⟨hrun, hended, _, _, rfl, ?_, ⟨_, rfl⟩, hW, hsame.mono (by decide) (by decide)⟩⟩
            show own_Q_eqP Z a b x1 x2 x3 x4 x5 x6 y1 y2 y3 y4 y5 y6 r h0 n0 _ T68.heap _
            rw [e68]
            exact ⟨(by rw [hr0]; simp [hc32_57, hc43_60, hc54_63, hc65_66, hc76_69]), N0, rfl⟩
        · refine own_go (B := T65.setTop (mkF m 94 #[.val (.ref a), .val (.ref b), .val (.ref b)] [])) (fun t k => XS.icmpYes X65.here hx rfl (pc0 := 65) (pc' := 94) rfl (hb hby own_d1_65) rfl (feq hc65_66).2 (by decide) (by decide) k) ?_
          refine own_go (B := T65.setTop (mkF m 95 #[.val (.ref a), .val (.ref b), .val (.ref b)] [(.int (0 : Int32))])) (fun t k => XS.iconst X65.here hx rfl (hb hby own_d1_94) k) ?_
          obtain ⟨fs, hr, hrun, hended, hW, hsame⟩ := X65.leave (v := some (.int (0 : Int32))) (fun h => by rw [Bd.returns] at h; cases h)
          refine ⟨_, _, retN X65 hx (t := .boolean) Bd.returns (by simp) (hb hby own_d1_95) hr, hK _ _ ⟨hrun, hended, _, _, rfl, ?_, ⟨_, rfl⟩, hW, hsame.mono (by decide) (by decide)⟩⟩
          show own_Q_eqP Z a b x1 x2 x3 x4 x5 x6 y1 y2 y3 y4 y5 y6 r h0 n0 _ T65.heap _
          rw [e65]
          exact ⟨(by rw [hr0]; simp [hc32_57, hc43_60, hc54_63, hc65_66]), N0, rfl⟩
      · refine own_go (B := T62.setTop (mkF m 94 #[.val (.ref a), .val (.ref b), .val (.ref b)] [])) (fun t k => XS.icmpYes X62.here hx rfl (pc0 := 54) (pc' := 94) rfl (hb hby own_d1_54) rfl (feq hc54_63).2 (by decide) (by decide) k) ?_
        refine own_go (B := T62.setTop (mkF m 95 #[.val (.ref a), .val (.ref b), .val (.ref b)] [(.int (0 : Int32))])) (fun t k => XS.iconst X62.here hx rfl (hb hby own_d1_94) k) ?_
        obtain ⟨fs, hr, hrun, hended, hW, hsame⟩ := X62.leave (v := some (.int (0 : Int32))) (fun h => by rw [Bd.returns] at h; cases h)
        refine ⟨_, _, retN X62 hx (t := .boolean) Bd.returns (by simp) (hb hby own_d1_95) hr, hK _ _ ⟨hrun, hended, _, _, rfl, ?_, ⟨_, rfl⟩, hW, hsame.mono (by decide) (by decide)⟩⟩
        show own_Q_eqP Z a b x1 x2 x3 x4 x5 x6 y1 y2 y3 y4 y5 y6 r h0 n0 _ T62.heap _
        rw [e62]
        exact ⟨(by rw [hr0]; simp [hc32_57, hc43_60, hc54_63]), N0, rfl⟩
    · refine own_go (B := T59.setTop (mkF m 94 #[.val (.ref a), .val (.ref b), .val (.ref b)] [])) (fun t k => XS.icmpYes X59.here hx rfl (pc0 := 43) (pc' := 94) rfl (hb hby own_d1_43) rfl (feq hc43_60).2 (by decide) (by decide) k) ?_
      refine own_go (B := T59.setTop (mkF m 95 #[.val (.ref a), .val (.ref b), .val (.ref b)] [(.int (0 : Int32))])) (fun t k => XS.iconst X59.here hx rfl (hb hby own_d1_94) k) ?_
      obtain ⟨fs, hr, hrun, hended, hW, hsame⟩ := X59.leave (v := some (.int (0 : Int32))) (fun h => by rw [Bd.returns] at h; cases h)
      refine ⟨_, _, retN X59 hx (t := .boolean) Bd.returns (by simp) (hb hby own_d1_95) hr, hK _ _ ⟨hrun, hended, _, _, rfl, ?_, ⟨_, rfl⟩, hW, hsame.mono (by decide) (by decide)⟩⟩
      show own_Q_eqP Z a b x1 x2 x3 x4 x5 x6 y1 y2 y3 y4 y5 y6 r h0 n0 _ T59.heap _
      rw [e59]
      exact ⟨(by rw [hr0]; simp [hc32_57, hc43_60]), N0, rfl⟩
  · refine own_go (B := T56.setTop (mkF m 94 #[.val (.ref a), .val (.ref b), .val (.ref b)] [])) (fun t k => XS.icmpYes X56.here hx rfl (pc0 := 32) (pc' := 94) rfl (hb hby own_d1_32) rfl (feq hc32_57).2 (by decide) (by decide) k) ?_
    refine own_go (B := T56.setTop (mkF m 95 #[.val (.ref a), .val (.ref b), .val (.ref b)] [(.int (0 : Int32))])) (fun t k => XS.iconst X56.here hx rfl (hb hby own_d1_94) k) ?_
    obtain ⟨fs, hr, hrun, hended, hW, hsame⟩ := X56.leave (v := some (.int (0 : Int32))) (fun h => by rw [Bd.returns] at h; cases h)
    refine ⟨_, _, retN X56 hx (t := .boolean) Bd.returns (by simp) (hb hby own_d1_95) hr, hK _ _ ⟨hrun, hended, _, _, rfl, ?_, ⟨_, rfl⟩, hW, hsame.mono (by decide) (by decide)⟩⟩
    show own_Q_eqP Z a b x1 x2 x3 x4 x5 x6 y1 y2 y3 y4 y5 y6 r h0 n0 _ T56.heap _
    rw [e56]
    exact ⟨(by rw [hr0]; simp [hc32_57]), N0, rfl⟩
theorem own_d1_5 : decode prog_19_method_9_code 5 = .ok (.iconst 1, 1) := by decide +kernel
theorem own_d1_6 : decode prog_19_method_9_code 6 = .ok (.ireturn, 1) := by decide +kernel
theorem own_ef_eqS (m : MethodId) (x0 : Addr) (x1 : Addr)  : entryFrame m #[(.ref x0), (.ref x1)] 3 = mkF m 0 #[.val (.ref x0), .val (.ref x1), .unset] [] := by first | (simp [entryFrame, mkF, argsToLocals, Value.category]; done) | rfl
def own_Q_eqS (Z : State) (a : Addr) (h0 : Heap) (n0 : Nat) (v : Option Value) (h : Heap) (L : List Loc) : Prop := v = some (.int (1 : Int32)) ∧ Fr n0 L ∧ h = h0
set_option maxRecDepth 65536 in
set_option maxHeartbeats 40000000 in
theorem own_rm_eqS (l : Launch) (Z : State) (a0 : Array Value) (hw : ∀ d ∈ tables_1, d.before a0 Z = true) (ws : List Jvm.Cond) (a : Addr) (h0 : Heap) (n0 : Nat) (O0 : Old Z n0 h0) :
    MetFree l (⟨"com/example/helm_of_panes/helmofpanes/input/AbsoluteAxis", "equals", "(Ljava/lang/Object;)Z"⟩ : MethodName) (head1 (Jvm.Cond.code (⟨"com/example/helm_of_panes/helmofpanes/input/AbsoluteAxis", "equals", "(Ljava/lang/Object;)Z"⟩ : MethodName) prog_19_method_9_code 3 (some .boolean) :: ws) ({ frames := 0, cells := 0, slots := 0, locals := 0 } : Room)) (fun ar9 U => ar9 = #[(.ref a), (.ref a)] ∧ Z.Warmed39 U.vm ∧ U.heap = h0) (fun _ _ _ _ _ => True) (fun _ U o U' => ∃ v L, o = .returned v ∧ own_Q_eqS Z a h0 n0 v U'.heap L ∧ FrameEnd U o U' L ({ frames := 0, cells := 0, slots := 0, locals := 0 } : Room).cells ({ frames := 0, cells := 0, slots := 0, locals := 0 } : Room).slots) := by
  refine MetFree.of_bodySF (plainFor_of_name own_pn_2) hisR ?_
  intro p e s m args below meth c s₁ Bd hml0 hP hK0
  obtain ⟨rfl, hZ, hh⟩ := hP
  have hx := Bd.exec
  have hby := Bd.bytes
  have hml : c.maxLocals = 3 := hml0
  have hown : s.vm.findClass "com/example/helm_of_panes/helmofpanes/input/AbsoluteAxis" = some m.cls := findClass_of_methodNamed Bd.named
  have hnm := (name_of_methodNamed Bd.named Bd.method).1
  have X0 : Stand p l e ({ frames := 0, cells := 0, slots := 0, locals := 0 } : Room) s m #[(.ref a), (.ref a)] below meth c s₁ [] 0 0 := Stand.of_body Bd
  have e0 : s₁.heap = h0 := by rw [← hh, Bd.state]; rfl
  have N0 := Fr.nil n0
  refine own_open fun K hK => ?_
  refine own_go (B := s₁.setTop (mkF m 0 #[.val (.ref a), .val (.ref a), .unset] [])) (fun t k => castTop (own_ef_eqS m a a) k) ?_
  refine own_go (B := s₁.setTop (mkF m 1 #[.val (.ref a), .val (.ref a), .unset] [(.ref a)])) (fun t k => XS.aloadN X0.here hx rfl (hb hby own_d1_0) rfl rfl k) ?_
  refine own_go (B := s₁.setTop (mkF m 2 #[.val (.ref a), .val (.ref a), .unset] [(.ref a), (.ref a)])) (fun t k => XS.aloadN X0.here hx rfl (hb hby own_d1_1) rfl rfl k) ?_
  refine own_go (B := s₁.setTop (mkF m 5 #[.val (.ref a), .val (.ref a), .unset] [])) (fun t k => Jvm.RoadKit.acmp (g := (mkF m 2 #[.val (.ref a), .val (.ref a), .unset] [(.ref a), (.ref a)])) X0 hx rfl rfl rfl (pc0 := 2) (pc' := 5) (same := true) rfl (hb hby own_d1_2) rfl (decide_eq_true rfl) (by decide) (by decide) k) ?_
  refine own_go (B := s₁.setTop (mkF m 6 #[.val (.ref a), .val (.ref a), .unset] [(.int (1 : Int32))])) (fun t k => XS.iconst X0.here hx rfl (hb hby own_d1_5) k) ?_
  obtain ⟨fs, hr, hrun, hended, hW, hsame⟩ := X0.leave (v := some (.int (1 : Int32))) (fun h => by rw [Bd.returns] at h; cases h)
  refine ⟨_, _, retN X0 hx (t := .boolean) Bd.returns (by simp) (hb hby own_d1_6) hr, hK _ _ ⟨hrun, hended, _, _, rfl, ?_, ⟨_, rfl⟩, hW, hsame.mono (by decide) (by decide)⟩⟩
  show own_Q_eqS Z a h0 n0 _ s₁.heap _
  rw [e0]
  exact ⟨rfl, N0, rfl⟩
theorem own_d1_22 : decode prog_19_method_9_code 22 = .ok (.iconst 0, 1) := by decide +kernel
theorem own_d1_23 : decode prog_19_method_9_code 23 = .ok (.ireturn, 1) := by decide +kernel
theorem own_ef_eqN (m : MethodId) (x0 : Addr)  : entryFrame m #[(.ref x0), .null] 3 = mkF m 0 #[.val (.ref x0), .val .null, .unset] [] := by first | (simp [entryFrame, mkF, argsToLocals, Value.category]; done) | rfl
def own_Q_eqN (Z : State) (a : Addr) (h0 : Heap) (n0 : Nat) (v : Option Value) (h : Heap) (L : List Loc) : Prop := v = some (.int (0 : Int32)) ∧ Fr n0 L ∧ h = h0
set_option maxRecDepth 65536 in
set_option maxHeartbeats 40000000 in
theorem own_rm_eqN (l : Launch) (Z : State) (a0 : Array Value) (hw : ∀ d ∈ tables_1, d.before a0 Z = true) (ws : List Jvm.Cond) (a : Addr) (h0 : Heap) (n0 : Nat) (O0 : Old Z n0 h0) :
    MetFree l (⟨"com/example/helm_of_panes/helmofpanes/input/AbsoluteAxis", "equals", "(Ljava/lang/Object;)Z"⟩ : MethodName) (head1 (Jvm.Cond.code (⟨"com/example/helm_of_panes/helmofpanes/input/AbsoluteAxis", "equals", "(Ljava/lang/Object;)Z"⟩ : MethodName) prog_19_method_9_code 3 (some .boolean) :: ws) ({ frames := 0, cells := 0, slots := 0, locals := 0 } : Room)) (fun ar9 U => ar9 = #[(.ref a), .null] ∧ Z.Warmed39 U.vm ∧ U.heap = h0) (fun _ _ _ _ _ => True) (fun _ U o U' => ∃ v L, o = .returned v ∧ own_Q_eqN Z a h0 n0 v U'.heap L ∧ FrameEnd U o U' L ({ frames := 0, cells := 0, slots := 0, locals := 0 } : Room).cells ({ frames := 0, cells := 0, slots := 0, locals := 0 } : Room).slots) := by
  refine MetFree.of_bodySF (plainFor_of_name own_pn_2) hisR ?_
  intro p e s m args below meth c s₁ Bd hml0 hP hK0
  obtain ⟨rfl, hZ, hh⟩ := hP
  have hx := Bd.exec
  have hby := Bd.bytes
  have hml : c.maxLocals = 3 := hml0
  have hown : s.vm.findClass "com/example/helm_of_panes/helmofpanes/input/AbsoluteAxis" = some m.cls := findClass_of_methodNamed Bd.named
  have hnm := (name_of_methodNamed Bd.named Bd.method).1
  have X0 : Stand p l e ({ frames := 0, cells := 0, slots := 0, locals := 0 } : Room) s m #[(.ref a), .null] below meth c s₁ [] 0 0 := Stand.of_body Bd
  have e0 : s₁.heap = h0 := by rw [← hh, Bd.state]; rfl
  have N0 := Fr.nil n0
  refine own_open fun K hK => ?_
  refine own_go (B := s₁.setTop (mkF m 0 #[.val (.ref a), .val .null, .unset] [])) (fun t k => castTop (own_ef_eqN m a) k) ?_
  refine own_go (B := s₁.setTop (mkF m 1 #[.val (.ref a), .val .null, .unset] [(.ref a)])) (fun t k => XS.aloadN X0.here hx rfl (hb hby own_d1_0) rfl rfl k) ?_
  refine own_go (B := s₁.setTop (mkF m 2 #[.val (.ref a), .val .null, .unset] [.null, (.ref a)])) (fun t k => XS.aloadN X0.here hx rfl (hb hby own_d1_1) rfl rfl k) ?_
  refine own_go (B := s₁.setTop (mkF m 7 #[.val (.ref a), .val .null, .unset] [])) (fun t k => Jvm.RoadKit.acmp (g := (mkF m 2 #[.val (.ref a), .val .null, .unset] [.null, (.ref a)])) X0 hx rfl rfl rfl (pc0 := 2) (pc' := 7) (same := false) rfl (hb hby own_d1_2) rfl (decide_eq_false nofun) (by decide) (by decide) k) ?_
  refine own_go (B := s₁.setTop (mkF m 8 #[.val (.ref a), .val .null, .unset] [.null])) (fun t k => XS.aloadN X0.here hx rfl (hb hby own_d1_7) rfl rfl k) ?_
  refine own_go (B := s₁.setTop (mkF m 11 #[.val (.ref a), .val .null, .unset] [(.int (0 : Int32))])) (fun t k => X0.instanceofNull hx (g := (mkF m 8 #[.val (.ref a), .val .null, .unset] [.null])) rfl rfl (hb hby own_d1_8) _ k) ?_
  refine own_go (B := s₁.setTop (mkF m 22 #[.val (.ref a), .val .null, .unset] [])) (fun t k => XS.ifYes X0.here hx rfl (pc0 := 11) (pc' := 22) rfl (hb hby own_d1_11) rfl ((if0 _ _).trans (teq (by decide : (0 : Int32) = (0 : Int32))).1) (by decide) (by decide) k) ?_
  refine own_go (B := s₁.setTop (mkF m 23 #[.val (.ref a), .val .null, .unset] [(.int (0 : Int32))])) (fun t k => XS.iconst X0.here hx rfl (hb hby own_d1_22) k) ?_
  obtain ⟨fs, hr, hrun, hended, hW, hsame⟩ := X0.leave (v := some (.int (0 : Int32))) (fun h => by rw [Bd.returns] at h; cases h)
  refine ⟨_, _, retN X0 hx (t := .boolean) Bd.returns (by simp) (hb hby own_d1_23) hr, hK _ _ ⟨hrun, hended, _, _, rfl, ?_, ⟨_, rfl⟩, hW, hsame.mono (by decide) (by decide)⟩⟩
  show own_Q_eqN Z a h0 n0 _ s₁.heap _
  rw [e0]
  exact ⟨rfl, N0, rfl⟩
theorem own_ef_eqI (m : MethodId) (x0 : Addr) (x1 : Addr)  : entryFrame m #[(.ref x0), (.ref x1)] 3 = mkF m 0 #[.val (.ref x0), .val (.ref x1), .unset] [] := by first | (simp [entryFrame, mkF, argsToLocals, Value.category]; done) | rfl
def own_Q_eqI (Z : State) (a b : Addr) (h0 : Heap) (n0 : Nat) (v : Option Value) (h : Heap) (L : List Loc) : Prop := v = some (.int (0 : Int32)) ∧ Fr n0 L ∧ h = h0
set_option maxRecDepth 65536 in
set_option maxHeartbeats 40000000 in
theorem own_rm_eqI (l : Launch) (Z : State) (a0 : Array Value) (hw : ∀ d ∈ tables_1, d.before a0 Z = true) (ws : List Jvm.Cond) (a b : Addr) (h0 : Heap) (n0 : Nat) (O0 : Old Z n0 h0) (hne : a ≠ b) (E2 : Exa Z h0 b "java/lang/Integer") (I2 : Ins Z h0 b "com/example/helm_of_panes/helmofpanes/input/AbsoluteAxis" false) :
    MetFree l (⟨"com/example/helm_of_panes/helmofpanes/input/AbsoluteAxis", "equals", "(Ljava/lang/Object;)Z"⟩ : MethodName) (head1 (Jvm.Cond.code (⟨"com/example/helm_of_panes/helmofpanes/input/AbsoluteAxis", "equals", "(Ljava/lang/Object;)Z"⟩ : MethodName) prog_19_method_9_code 3 (some .boolean) :: ws) ({ frames := 0, cells := 0, slots := 0, locals := 0 } : Room)) (fun ar9 U => ar9 = #[(.ref a), (.ref b)] ∧ Z.Warmed39 U.vm ∧ U.heap = h0) (fun _ _ _ _ _ => True) (fun _ U o U' => ∃ v L, o = .returned v ∧ own_Q_eqI Z a b h0 n0 v U'.heap L ∧ FrameEnd U o U' L ({ frames := 0, cells := 0, slots := 0, locals := 0 } : Room).cells ({ frames := 0, cells := 0, slots := 0, locals := 0 } : Room).slots) := by
  refine MetFree.of_bodySF (plainFor_of_name own_pn_2) hisR ?_
  intro p e s m args below meth c s₁ Bd hml0 hP hK0
  obtain ⟨rfl, hZ, hh⟩ := hP
  have hx := Bd.exec
  have hby := Bd.bytes
  have hml : c.maxLocals = 3 := hml0
  have hown : s.vm.findClass "com/example/helm_of_panes/helmofpanes/input/AbsoluteAxis" = some m.cls := findClass_of_methodNamed Bd.named
  have hnm := (name_of_methodNamed Bd.named Bd.method).1
  have X0 : Stand p l e ({ frames := 0, cells := 0, slots := 0, locals := 0 } : Room) s m #[(.ref a), (.ref b)] below meth c s₁ [] 0 0 := Stand.of_body Bd
  have e0 : s₁.heap = h0 := by rw [← hh, Bd.state]; rfl
  have N0 := Fr.nil n0
  refine own_open fun K hK => ?_
  refine own_go (B := s₁.setTop (mkF m 0 #[.val (.ref a), .val (.ref b), .unset] [])) (fun t k => castTop (own_ef_eqI m a b) k) ?_
  refine own_go (B := s₁.setTop (mkF m 1 #[.val (.ref a), .val (.ref b), .unset] [(.ref a)])) (fun t k => XS.aloadN X0.here hx rfl (hb hby own_d1_0) rfl rfl k) ?_
  refine own_go (B := s₁.setTop (mkF m 2 #[.val (.ref a), .val (.ref b), .unset] [(.ref b), (.ref a)])) (fun t k => XS.aloadN X0.here hx rfl (hb hby own_d1_1) rfl rfl k) ?_
  refine own_go (B := s₁.setTop (mkF m 7 #[.val (.ref a), .val (.ref b), .unset] [])) (fun t k => Jvm.RoadKit.acmp (g := (mkF m 2 #[.val (.ref a), .val (.ref b), .unset] [(.ref b), (.ref a)])) X0 hx rfl rfl rfl (pc0 := 2) (pc' := 7) (same := false) rfl (hb hby own_d1_2) rfl (decide_eq_false fun q => hne (Value.ref.inj q)) (by decide) (by decide) k) ?_
  refine own_go (B := s₁.setTop (mkF m 8 #[.val (.ref a), .val (.ref b), .unset] [(.ref b)])) (fun t k => XS.aloadN X0.here hx rfl (hb hby own_d1_7) rfl rfl k) ?_
  obtain ⟨T83, X83, e83, st83⟩ := instN X0 hx hZ hown (hw _ (List.mem_of_getElem? (i := 40) rfl)) e0 (by rw [hh]; exact I2) (by rw [hh]; exact E2) (g := (mkF m 8 #[.val (.ref a), .val (.ref b), .unset] [(.ref b)])) rfl rfl (hb hby own_d1_8)
  refine own_go (B := T83.setTop (mkF m 11 #[.val (.ref a), .val (.ref b), .unset] [(.int (0 : Int32))])) (fun t k => st83 _ k) ?_
  refine own_go (B := T83.setTop (mkF m 22 #[.val (.ref a), .val (.ref b), .unset] [])) (fun t k => XS.ifYes X83.here hx rfl (pc0 := 11) (pc' := 22) rfl (hb hby own_d1_11) rfl ((if0 _ _).trans (teq (by decide : (0 : Int32) = (0 : Int32))).1) (by decide) (by decide) k) ?_
  refine own_go (B := T83.setTop (mkF m 23 #[.val (.ref a), .val (.ref b), .unset] [(.int (0 : Int32))])) (fun t k => XS.iconst X83.here hx rfl (hb hby own_d1_22) k) ?_
  obtain ⟨fs, hr, hrun, hended, hW, hsame⟩ := X83.leave (v := some (.int (0 : Int32))) (fun h => by rw [Bd.returns] at h; cases h)
  refine ⟨_, _, retN X83 hx (t := .boolean) Bd.returns (by simp) (hb hby own_d1_23) hr, hK _ _ ⟨hrun, hended, _, _, rfl, ?_, ⟨_, rfl⟩, hW, hsame.mono (by decide) (by decide)⟩⟩
  show own_Q_eqI Z a b h0 n0 _ T83.heap _
  rw [e83]
  exact ⟨rfl, N0, rfl⟩
theorem own_pd_2 : parseMethodDescriptor "(II)I" = some ⟨[.int, .int], some .int⟩ := by decide +kernel
theorem own_pd_3 : parseMethodDescriptor "(IIIIII)V" = some ⟨[.int, .int, .int, .int, .int, .int], none⟩ := by decide +kernel
theorem own_pd_4 : parseMethodDescriptor "(Ljava/lang/Object;)Z" = some ⟨[(.object "java/lang/Object")], some .boolean⟩ := by decide +kernel
theorem own_pd_5 : parseMethodDescriptor "(I)Ljava/lang/Integer;" = some ⟨[.int], some (.object "java/lang/Integer")⟩ := by decide +kernel
theorem own_pn_3 : plainName "com/example/helm_of_panes/helmofpanes/input/AbsoluteAxisEqualsPinLaw" = true := by first | (simp [plainName, overriddenIn]; done) | decide +kernel
theorem own_ef_law (m : MethodId) (x0 : Int64) (x1 : Int64) (x2 : Int64) (x3 : Int32) (x4 : Int32) (x5 : Int32)  : entryFrame m #[(.long x0), (.long x1), (.long x2), (.int x3), (.int x4), (.int x5)] maxLocals = mkF m 0 #[.val (.long x0), .second, .val (.long x1), .second, .val (.long x2), .second, .val (.int x3), .val (.int x4), .val (.int x5), .unset, .unset, .unset, .unset, .unset, .unset, .unset, .unset, .unset, .unset, .unset, .unset, .unset, .unset, .unset, .unset, .unset, .unset, .unset] [] := by first | (simp [entryFrame, mkF, argsToLocals, Value.category, maxLocals]; done) | rfl
def own_Q_law (Z : State) (p1 : Int64) (p2 : Int64) (p3 : Int64) (p4 : Int32) (p5 : Int32) (p6 : Int32) (w_cache : Addr) (cl : Cell) (h0 : Heap) (n0 : Nat) (v : Option Value) (h : Heap) (L : List Loc) : Prop := v = some (.int 1) ∧ Fr n0 L
set_option maxRecDepth 65536 in
set_option maxHeartbeats 40000000 in
theorem own_rm_law (l : Launch) (Z : State) (a0 : Array Value) (hw : ∀ d ∈ tables_1, d.before a0 Z = true) (ws : List Jvm.Cond) (p1 : Int64) (p2 : Int64) (p3 : Int64) (p4 : Int32) (p5 : Int32) (p6 : Int32) (w_cache : Addr) (cl : Cell) (h0 : Heap) (n0 : Nat) (O0 : Old Z n0 h0) (Hc : own_Cache Z w_cache cl) :
    MetFree l x (head1 (Jvm.Cond.code x code maxLocals ret :: ws) room_1) (fun ar9 U => ar9 = #[(.long p1), (.long p2), (.long p3), (.int p4), (.int p5), (.int p6)] ∧ Z.Warmed39 U.vm ∧ U.heap = h0) (fun _ _ _ _ _ => True) (fun _ U o U' => ∃ v L, o = .returned v ∧ own_Q_law Z p1 p2 p3 p4 p5 p6 w_cache cl h0 n0 v U'.heap L ∧ FrameEnd U o U' L room_1.cells room_1.slots) := by
  refine MetFree.of_bodySF (plainFor_of_name own_pn_3) hisR ?_
  intro p e s m args below meth c s₁ Bd hml0 hP hK0
  obtain ⟨rfl, hZ, hh⟩ := hP
  have hx := Bd.exec
  have hby := Bd.bytes
  have hml : c.maxLocals = 28 := hml0
  have hown : s.vm.findClass "com/example/helm_of_panes/helmofpanes/input/AbsoluteAxisEqualsPinLaw" = some m.cls := findClass_of_methodNamed Bd.named
  have hnm := (name_of_methodNamed Bd.named Bd.method).1
  have X0 : Stand p l e room_1 s m #[(.long p1), (.long p2), (.long p3), (.int p4), (.int p5), (.int p6)] below meth c s₁ [] 0 0 := Stand.of_body Bd
  have e0 : s₁.heap = h0 := by rw [← hh, Bd.state]; rfl
  have N0 := Fr.nil n0
  refine own_open fun K hK => ?_
  refine own_go (B := s₁.setTop (mkF m 0 #[.val (.long p1), .second, .val (.long p2), .second, .val (.long p3), .second, .val (.int p4), .val (.int p5), .val (.int p6), .unset, .unset, .unset, .unset, .unset, .unset, .unset, .unset, .unset, .unset, .unset, .unset, .unset, .unset, .unset, .unset, .unset, .unset, .unset] [])) (fun t k => castTop (own_ef_law m p1 p2 p3 p4 p5 p6) k) ?_
  refine own_go (B := s₁.setTop (mkF m 1 #[.val (.long p1), .second, .val (.long p2), .second, .val (.long p3), .second, .val (.int p4), .val (.int p5), .val (.int p6), .unset, .unset, .unset, .unset, .unset, .unset, .unset, .unset, .unset, .unset, .unset, .unset, .unset, .unset, .unset, .unset, .unset, .unset, .unset] [(.long p1)])) (fun t k => XS.lloadN X0.here hx rfl (hb hby at_0) rfl k) ?_
  refine own_go (B := s₁.setTop (mkF m 3 #[.val (.long p1), .second, .val (.long p2), .second, .val (.long p3), .second, .val (.int p4), .val (.int p5), .val (.int p6), .unset, .unset, .unset, .unset, .unset, .unset, .unset, .unset, .unset, .unset, .unset, .unset, .unset, .unset, .unset, .unset, .unset, .unset, .unset] [(.int (32 : Int32)), (.long p1)])) (fun t k => XS.bipush X0.here hx rfl (hb hby at_1) k) ?_
  refine own_go (B := s₁.setTop (mkF m 4 #[.val (.long p1), .second, .val (.long p2), .second, .val (.long p3), .second, .val (.int p4), .val (.int p5), .val (.int p6), .unset, .unset, .unset, .unset, .unset, .unset, .unset, .unset, .unset, .unset, .unset, .unset, .unset, .unset, .unset, .unset, .unset, .unset, .unset] [(.long ((p1.toUInt64 >>> ((32 : Int32) &&& 0x3f).toInt64.toUInt64).toInt64))])) (fun t k => XS.lushr X0.here hx rfl (hb hby at_3) rfl k) ?_
  refine own_go (B := s₁.setTop (mkF m 5 #[.val (.long p1), .second, .val (.long p2), .second, .val (.long p3), .second, .val (.int p4), .val (.int p5), .val (.int p6), .unset, .unset, .unset, .unset, .unset, .unset, .unset, .unset, .unset, .unset, .unset, .unset, .unset, .unset, .unset, .unset, .unset, .unset, .unset] [(.int (((p1.toUInt64 >>> ((32 : Int32) &&& 0x3f).toInt64.toUInt64).toInt64).toInt32))])) (fun t k => XS.l2i X0.here hx rfl (hb hby at_4) rfl k) ?_
  refine own_go (B := s₁.setTop (mkF m 7 #[.val (.long p1), .second, .val (.long p2), .second, .val (.long p3), .second, .val (.int p4), .val (.int p5), .val (.int p6), .val (.int (((p1.toUInt64 >>> ((32 : Int32) &&& 0x3f).toInt64.toUInt64).toInt64).toInt32)), .unset, .unset, .unset, .unset, .unset, .unset, .unset, .unset, .unset, .unset, .unset, .unset, .unset, .unset, .unset, .unset, .unset, .unset] [])) (fun t k => XS.istore X0.here hx rfl (hb hby at_5) rfl (l' := #[.val (.long p1), .second, .val (.long p2), .second, .val (.long p3), .second, .val (.int p4), .val (.int p5), .val (.int p6), .val (.int (((p1.toUInt64 >>> ((32 : Int32) &&& 0x3f).toInt64.toUInt64).toInt64).toInt32)), .unset, .unset, .unset, .unset, .unset, .unset, .unset, .unset, .unset, .unset, .unset, .unset, .unset, .unset, .unset, .unset, .unset, .unset]) rfl k) ?_
  obtain ⟨cd, hcd⟩ : ∃ z, z = (((p1.toUInt64 >>> ((32 : Int32) &&& 0x3f).toInt64.toUInt64).toInt64).toInt32) := ⟨_, rfl⟩
  rw [← hcd]
  refine own_go (B := s₁.setTop (mkF m 8 #[.val (.long p1), .second, .val (.long p2), .second, .val (.long p3), .second, .val (.int p4), .val (.int p5), .val (.int p6), .val (.int cd), .unset, .unset, .unset, .unset, .unset, .unset, .unset, .unset, .unset, .unset, .unset, .unset, .unset, .unset, .unset, .unset, .unset, .unset] [(.long p1)])) (fun t k => XS.lloadN X0.here hx rfl (hb hby at_7) rfl k) ?_
  refine own_go (B := s₁.setTop (mkF m 9 #[.val (.long p1), .second, .val (.long p2), .second, .val (.long p3), .second, .val (.int p4), .val (.int p5), .val (.int p6), .val (.int cd), .unset, .unset, .unset, .unset, .unset, .unset, .unset, .unset, .unset, .unset, .unset, .unset, .unset, .unset, .unset, .unset, .unset, .unset] [(.int (p1.toInt32))])) (fun t k => XS.l2i X0.here hx rfl (hb hby at_8) rfl k) ?_
  refine own_go (B := s₁.setTop (mkF m 11 #[.val (.long p1), .second, .val (.long p2), .second, .val (.long p3), .second, .val (.int p4), .val (.int p5), .val (.int p6), .val (.int cd), .val (.int (p1.toInt32)), .unset, .unset, .unset, .unset, .unset, .unset, .unset, .unset, .unset, .unset, .unset, .unset, .unset, .unset, .unset, .unset, .unset] [])) (fun t k => XS.istore X0.here hx rfl (hb hby at_9) rfl (l' := #[.val (.long p1), .second, .val (.long p2), .second, .val (.long p3), .second, .val (.int p4), .val (.int p5), .val (.int p6), .val (.int cd), .val (.int (p1.toInt32)), .unset, .unset, .unset, .unset, .unset, .unset, .unset, .unset, .unset, .unset, .unset, .unset, .unset, .unset, .unset, .unset, .unset]) rfl k) ?_
  obtain ⟨rs, hrs⟩ : ∃ z, z = (p1.toInt32) := ⟨_, rfl⟩
  rw [← hrs]
  refine own_go (B := s₁.setTop (mkF m 12 #[.val (.long p1), .second, .val (.long p2), .second, .val (.long p3), .second, .val (.int p4), .val (.int p5), .val (.int p6), .val (.int cd), .val (.int rs), .unset, .unset, .unset, .unset, .unset, .unset, .unset, .unset, .unset, .unset, .unset, .unset, .unset, .unset, .unset, .unset, .unset] [(.long p2)])) (fun t k => XS.lloadN X0.here hx rfl (hb hby at_11) rfl k) ?_
  refine own_go (B := s₁.setTop (mkF m 14 #[.val (.long p1), .second, .val (.long p2), .second, .val (.long p3), .second, .val (.int p4), .val (.int p5), .val (.int p6), .val (.int cd), .val (.int rs), .unset, .unset, .unset, .unset, .unset, .unset, .unset, .unset, .unset, .unset, .unset, .unset, .unset, .unset, .unset, .unset, .unset] [(.int (32 : Int32)), (.long p2)])) (fun t k => XS.bipush X0.here hx rfl (hb hby at_12) k) ?_
  refine own_go (B := s₁.setTop (mkF m 15 #[.val (.long p1), .second, .val (.long p2), .second, .val (.long p3), .second, .val (.int p4), .val (.int p5), .val (.int p6), .val (.int cd), .val (.int rs), .unset, .unset, .unset, .unset, .unset, .unset, .unset, .unset, .unset, .unset, .unset, .unset, .unset, .unset, .unset, .unset, .unset] [(.long ((p2.toUInt64 >>> ((32 : Int32) &&& 0x3f).toInt64.toUInt64).toInt64))])) (fun t k => XS.lushr X0.here hx rfl (hb hby at_14) rfl k) ?_
  refine own_go (B := s₁.setTop (mkF m 16 #[.val (.long p1), .second, .val (.long p2), .second, .val (.long p3), .second, .val (.int p4), .val (.int p5), .val (.int p6), .val (.int cd), .val (.int rs), .unset, .unset, .unset, .unset, .unset, .unset, .unset, .unset, .unset, .unset, .unset, .unset, .unset, .unset, .unset, .unset, .unset] [(.int (((p2.toUInt64 >>> ((32 : Int32) &&& 0x3f).toInt64.toUInt64).toInt64).toInt32))])) (fun t k => XS.l2i X0.here hx rfl (hb hby at_15) rfl k) ?_
  refine own_go (B := s₁.setTop (mkF m 18 #[.val (.long p1), .second, .val (.long p2), .second, .val (.long p3), .second, .val (.int p4), .val (.int p5), .val (.int p6), .val (.int cd), .val (.int rs), .val (.int (((p2.toUInt64 >>> ((32 : Int32) &&& 0x3f).toInt64.toUInt64).toInt64).toInt32)), .unset, .unset, .unset, .unset, .unset, .unset, .unset, .unset, .unset, .unset, .unset, .unset, .unset, .unset, .unset, .unset] [])) (fun t k => XS.istore X0.here hx rfl (hb hby at_16) rfl (l' := #[.val (.long p1), .second, .val (.long p2), .second, .val (.long p3), .second, .val (.int p4), .val (.int p5), .val (.int p6), .val (.int cd), .val (.int rs), .val (.int (((p2.toUInt64 >>> ((32 : Int32) &&& 0x3f).toInt64.toUInt64).toInt64).toInt32)), .unset, .unset, .unset, .unset, .unset, .unset, .unset, .unset, .unset, .unset, .unset, .unset, .unset, .unset, .unset, .unset]) rfl k) ?_
  obtain ⟨mx, hmx⟩ : ∃ z, z = (((p2.toUInt64 >>> ((32 : Int32) &&& 0x3f).toInt64.toUInt64).toInt64).toInt32) := ⟨_, rfl⟩
  rw [← hmx]
  refine own_go (B := s₁.setTop (mkF m 19 #[.val (.long p1), .second, .val (.long p2), .second, .val (.long p3), .second, .val (.int p4), .val (.int p5), .val (.int p6), .val (.int cd), .val (.int rs), .val (.int mx), .unset, .unset, .unset, .unset, .unset, .unset, .unset, .unset, .unset, .unset, .unset, .unset, .unset, .unset, .unset, .unset] [(.long p2)])) (fun t k => XS.lloadN X0.here hx rfl (hb hby at_18) rfl k) ?_
  refine own_go (B := s₁.setTop (mkF m 20 #[.val (.long p1), .second, .val (.long p2), .second, .val (.long p3), .second, .val (.int p4), .val (.int p5), .val (.int p6), .val (.int cd), .val (.int rs), .val (.int mx), .unset, .unset, .unset, .unset, .unset, .unset, .unset, .unset, .unset, .unset, .unset, .unset, .unset, .unset, .unset, .unset] [(.int (p2.toInt32))])) (fun t k => XS.l2i X0.here hx rfl (hb hby at_19) rfl k) ?_
  refine own_go (B := s₁.setTop (mkF m 22 #[.val (.long p1), .second, .val (.long p2), .second, .val (.long p3), .second, .val (.int p4), .val (.int p5), .val (.int p6), .val (.int cd), .val (.int rs), .val (.int mx), .val (.int (p2.toInt32)), .unset, .unset, .unset, .unset, .unset, .unset, .unset, .unset, .unset, .unset, .unset, .unset, .unset, .unset, .unset] [])) (fun t k => XS.istore X0.here hx rfl (hb hby at_20) rfl (l' := #[.val (.long p1), .second, .val (.long p2), .second, .val (.long p3), .second, .val (.int p4), .val (.int p5), .val (.int p6), .val (.int cd), .val (.int rs), .val (.int mx), .val (.int (p2.toInt32)), .unset, .unset, .unset, .unset, .unset, .unset, .unset, .unset, .unset, .unset, .unset, .unset, .unset, .unset, .unset]) rfl k) ?_
  obtain ⟨my, hmy⟩ : ∃ z, z = (p2.toInt32) := ⟨_, rfl⟩
  rw [← hmy]
  refine own_go (B := s₁.setTop (mkF m 24 #[.val (.long p1), .second, .val (.long p2), .second, .val (.long p3), .second, .val (.int p4), .val (.int p5), .val (.int p6), .val (.int cd), .val (.int rs), .val (.int mx), .val (.int my), .unset, .unset, .unset, .unset, .unset, .unset, .unset, .unset, .unset, .unset, .unset, .unset, .unset, .unset, .unset] [(.int mx)])) (fun t k => XS.iload X0.here hx rfl (hb hby at_22) rfl k) ?_
  refine own_go (B := s₁.setTop (mkF m 26 #[.val (.long p1), .second, .val (.long p2), .second, .val (.long p3), .second, .val (.int p4), .val (.int p5), .val (.int p6), .val (.int cd), .val (.int rs), .val (.int mx), .val (.int my), .unset, .unset, .unset, .unset, .unset, .unset, .unset, .unset, .unset, .unset, .unset, .unset, .unset, .unset, .unset] [(.int my), (.int mx)])) (fun t k => XS.iload X0.here hx rfl (hb hby at_24) rfl k) ?_
  obtain ⟨_, _, ⟨T86, L86, k86, n86⟩, -, X86, ⟨Lc86, hQ86, l86, y86, z86⟩, st86⟩ := Jvm.LawKit.callS X0 hx (y := (⟨"java/lang/Math", "min", "(II)I"⟩ : MethodName)) hown (mvT hZ (hw _ (List.mem_of_getElem? (i := 0) rfl))) (mvT hZ (hw _ (List.mem_of_getElem? (i := 1) rfl))) (mvT hZ (hw _ (List.mem_of_getElem? (i := 2) rfl))) (mvT hZ (hw _ (List.mem_of_getElem? (i := 3) rfl))) (by decide) (backOf (W := 0) (own_rm_mmin l Z a0 hw [] mx my h0 n0 O0) hZ (hw _ (List.mem_of_getElem? (i := 3) rfl)) (hw _ (List.mem_of_getElem? (i := 2) rfl)) (by decide) (by decide)) (g := (mkF m 26 #[.val (.long p1), .second, .val (.long p2), .second, .val (.long p3), .second, .val (.int p4), .val (.int p5), .val (.int p6), .val (.int cd), .val (.int rs), .val (.int mx), .val (.int my), .unset, .unset, .unset, .unset, .unset, .unset, .unset, .unset, .unset, .unset, .unset, .unset, .unset, .unset, .unset] [(.int my), (.int mx)])) rfl (by rw [hml]; rfl) (argsL := [(.int mx), (.int my)]) (rest := []) (lenOf own_pd_2 rfl) rfl (by show 2 * 0 + _ ≤ _; exact Nat.le_of_eq rfl) (hb hby at_26) (fun _ _ => ⟨rfl, e0, (by decide : 0 + 0 ≤ _), (by decide : 0 + 0 ≤ _)⟩)
  dsimp only [Pt.U, Pt.locs, Pt.cells, Pt.slots] at X86 l86 y86 z86 st86 hQ86
  subst l86 y86 z86
  obtain ⟨rfl, N86q, eh86⟩ := hQ86
  have N86 := Fr.app N0 N86q
  refine own_go (B := T86.setTop (mkF m 29 #[.val (.long p1), .second, .val (.long p2), .second, .val (.long p3), .second, .val (.int p4), .val (.int p5), .val (.int p6), .val (.int cd), .val (.int rs), .val (.int mx), .val (.int my), .unset, .unset, .unset, .unset, .unset, .unset, .unset, .unset, .unset, .unset, .unset, .unset, .unset, .unset, .unset] [(.int (own_min mx my))])) (fun t k => st86 _ k) ?_
  refine own_go (B := T86.setTop (mkF m 31 #[.val (.long p1), .second, .val (.long p2), .second, .val (.long p3), .second, .val (.int p4), .val (.int p5), .val (.int p6), .val (.int cd), .val (.int rs), .val (.int mx), .val (.int my), .val (.int (own_min mx my)), .unset, .unset, .unset, .unset, .unset, .unset, .unset, .unset, .unset, .unset, .unset, .unset, .unset, .unset] [])) (fun t k => XS.istore X86.here hx rfl (hb hby at_29) rfl (l' := #[.val (.long p1), .second, .val (.long p2), .second, .val (.long p3), .second, .val (.int p4), .val (.int p5), .val (.int p6), .val (.int cd), .val (.int rs), .val (.int mx), .val (.int my), .val (.int (own_min mx my)), .unset, .unset, .unset, .unset, .unset, .unset, .unset, .unset, .unset, .unset, .unset, .unset, .unset, .unset]) rfl k) ?_
  obtain ⟨lo, hlo⟩ : ∃ z, z = (own_min mx my) := ⟨_, rfl⟩
  rw [← hlo]
  refine own_go (B := T86.setTop (mkF m 33 #[.val (.long p1), .second, .val (.long p2), .second, .val (.long p3), .second, .val (.int p4), .val (.int p5), .val (.int p6), .val (.int cd), .val (.int rs), .val (.int mx), .val (.int my), .val (.int lo), .unset, .unset, .unset, .unset, .unset, .unset, .unset, .unset, .unset, .unset, .unset, .unset, .unset, .unset] [(.int mx)])) (fun t k => XS.iload X86.here hx rfl (hb hby at_31) rfl k) ?_
  refine own_go (B := T86.setTop (mkF m 35 #[.val (.long p1), .second, .val (.long p2), .second, .val (.long p3), .second, .val (.int p4), .val (.int p5), .val (.int p6), .val (.int cd), .val (.int rs), .val (.int mx), .val (.int my), .val (.int lo), .unset, .unset, .unset, .unset, .unset, .unset, .unset, .unset, .unset, .unset, .unset, .unset, .unset, .unset] [(.int my), (.int mx)])) (fun t k => XS.iload X86.here hx rfl (hb hby at_33) rfl k) ?_
  obtain ⟨_, _, ⟨T87, L87, k87, n87⟩, -, X87, ⟨Lc87, hQ87, l87, y87, z87⟩, st87⟩ := Jvm.LawKit.callS X86 hx (y := (⟨"java/lang/Math", "max", "(II)I"⟩ : MethodName)) hown (mvT hZ (hw _ (List.mem_of_getElem? (i := 4) rfl))) (mvT hZ (hw _ (List.mem_of_getElem? (i := 5) rfl))) (mvT hZ (hw _ (List.mem_of_getElem? (i := 2) rfl))) (mvT hZ (hw _ (List.mem_of_getElem? (i := 6) rfl))) (by decide) (backOf (W := 0) (own_rm_mmax l Z a0 hw [] mx my h0 n0 O0) hZ (hw _ (List.mem_of_getElem? (i := 6) rfl)) (hw _ (List.mem_of_getElem? (i := 2) rfl)) (by decide) (by decide)) (g := (mkF m 35 #[.val (.long p1), .second, .val (.long p2), .second, .val (.long p3), .second, .val (.int p4), .val (.int p5), .val (.int p6), .val (.int cd), .val (.int rs), .val (.int mx), .val (.int my), .val (.int lo), .unset, .unset, .unset, .unset, .unset, .unset, .unset, .unset, .unset, .unset, .unset, .unset, .unset, .unset] [(.int my), (.int mx)])) rfl (by rw [hml]; rfl) (argsL := [(.int mx), (.int my)]) (rest := []) (lenOf own_pd_2 rfl) rfl (by show 2 * 0 + _ ≤ _; exact Nat.le_of_eq rfl) (hb hby at_35) (fun _ _ => ⟨rfl, eh86, (by decide : 0 + 0 ≤ _), (by decide : 0 + 0 ≤ _)⟩)
  dsimp only [Pt.U, Pt.locs, Pt.cells, Pt.slots] at X87 l87 y87 z87 st87 hQ87
  subst l87 y87 z87
  obtain ⟨rfl, N87q, eh87⟩ := hQ87
  have N87 := Fr.app N86 N87q
  refine own_go (B := T87.setTop (mkF m 38 #[.val (.long p1), .second, .val (.long p2), .second, .val (.long p3), .second, .val (.int p4), .val (.int p5), .val (.int p6), .val (.int cd), .val (.int rs), .val (.int mx), .val (.int my), .val (.int lo), .unset, .unset, .unset, .unset, .unset, .unset, .unset, .unset, .unset, .unset, .unset, .unset, .unset, .unset] [(.int (own_max mx my))])) (fun t k => st87 _ k) ?_
  refine own_go (B := T87.setTop (mkF m 40 #[.val (.long p1), .second, .val (.long p2), .second, .val (.long p3), .second, .val (.int p4), .val (.int p5), .val (.int p6), .val (.int cd), .val (.int rs), .val (.int mx), .val (.int my), .val (.int lo), .val (.int (own_max mx my)), .unset, .unset, .unset, .unset, .unset, .unset, .unset, .unset, .unset, .unset, .unset, .unset, .unset] [])) (fun t k => XS.istore X87.here hx rfl (hb hby at_38) rfl (l' := #[.val (.long p1), .second, .val (.long p2), .second, .val (.long p3), .second, .val (.int p4), .val (.int p5), .val (.int p6), .val (.int cd), .val (.int rs), .val (.int mx), .val (.int my), .val (.int lo), .val (.int (own_max mx my)), .unset, .unset, .unset, .unset, .unset, .unset, .unset, .unset, .unset, .unset, .unset, .unset, .unset]) rfl k) ?_
  obtain ⟨hi, hhi⟩ : ∃ z, z = (own_max mx my) := ⟨_, rfl⟩
  rw [← hhi]
  have hle_lo : ¬ (hi < lo) := by rw [hhi, hlo]; exact own_minmax mx my
  refine own_go (B := T87.setTop (mkF m 42 #[.val (.long p1), .second, .val (.long p2), .second, .val (.long p3), .second, .val (.int p4), .val (.int p5), .val (.int p6), .val (.int cd), .val (.int rs), .val (.int mx), .val (.int my), .val (.int lo), .val (.int hi), .unset, .unset, .unset, .unset, .unset, .unset, .unset, .unset, .unset, .unset, .unset, .unset, .unset] [(.long p3)])) (fun t k => XS.lload X87.here hx rfl (hb hby at_40) rfl k) ?_
  refine own_go (B := T87.setTop (mkF m 44 #[.val (.long p1), .second, .val (.long p2), .second, .val (.long p3), .second, .val (.int p4), .val (.int p5), .val (.int p6), .val (.int cd), .val (.int rs), .val (.int mx), .val (.int my), .val (.int lo), .val (.int hi), .unset, .unset, .unset, .unset, .unset, .unset, .unset, .unset, .unset, .unset, .unset, .unset, .unset] [(.int (32 : Int32)), (.long p3)])) (fun t k => XS.bipush X87.here hx rfl (hb hby at_42) k) ?_
  refine own_go (B := T87.setTop (mkF m 45 #[.val (.long p1), .second, .val (.long p2), .second, .val (.long p3), .second, .val (.int p4), .val (.int p5), .val (.int p6), .val (.int cd), .val (.int rs), .val (.int mx), .val (.int my), .val (.int lo), .val (.int hi), .unset, .unset, .unset, .unset, .unset, .unset, .unset, .unset, .unset, .unset, .unset, .unset, .unset] [(.long ((p3.toUInt64 >>> ((32 : Int32) &&& 0x3f).toInt64.toUInt64).toInt64))])) (fun t k => XS.lushr X87.here hx rfl (hb hby at_44) rfl k) ?_
  refine own_go (B := T87.setTop (mkF m 46 #[.val (.long p1), .second, .val (.long p2), .second, .val (.long p3), .second, .val (.int p4), .val (.int p5), .val (.int p6), .val (.int cd), .val (.int rs), .val (.int mx), .val (.int my), .val (.int lo), .val (.int hi), .unset, .unset, .unset, .unset, .unset, .unset, .unset, .unset, .unset, .unset, .unset, .unset, .unset] [(.int (((p3.toUInt64 >>> ((32 : Int32) &&& 0x3f).toInt64.toUInt64).toInt64).toInt32))])) (fun t k => XS.l2i X87.here hx rfl (hb hby at_45) rfl k) ?_
  refine own_go (B := T87.setTop (mkF m 48 #[.val (.long p1), .second, .val (.long p2), .second, .val (.long p3), .second, .val (.int p4), .val (.int p5), .val (.int p6), .val (.int cd), .val (.int rs), .val (.int mx), .val (.int my), .val (.int lo), .val (.int hi), .val (.int (((p3.toUInt64 >>> ((32 : Int32) &&& 0x3f).toInt64.toUInt64).toInt64).toInt32)), .unset, .unset, .unset, .unset, .unset, .unset, .unset, .unset, .unset, .unset, .unset, .unset] [])) (fun t k => XS.istore X87.here hx rfl (hb hby at_46) rfl (l' := #[.val (.long p1), .second, .val (.long p2), .second, .val (.long p3), .second, .val (.int p4), .val (.int p5), .val (.int p6), .val (.int cd), .val (.int rs), .val (.int mx), .val (.int my), .val (.int lo), .val (.int hi), .val (.int (((p3.toUInt64 >>> ((32 : Int32) &&& 0x3f).toInt64.toUInt64).toInt64).toInt32)), .unset, .unset, .unset, .unset, .unset, .unset, .unset, .unset, .unset, .unset, .unset, .unset]) rfl k) ?_
  obtain ⟨fz, hfz⟩ : ∃ z, z = (((p3.toUInt64 >>> ((32 : Int32) &&& 0x3f).toInt64.toUInt64).toInt64).toInt32) := ⟨_, rfl⟩
  rw [← hfz]
  refine own_go (B := T87.setTop (mkF m 50 #[.val (.long p1), .second, .val (.long p2), .second, .val (.long p3), .second, .val (.int p4), .val (.int p5), .val (.int p6), .val (.int cd), .val (.int rs), .val (.int mx), .val (.int my), .val (.int lo), .val (.int hi), .val (.int fz), .unset, .unset, .unset, .unset, .unset, .unset, .unset, .unset, .unset, .unset, .unset, .unset] [(.long p3)])) (fun t k => XS.lload X87.here hx rfl (hb hby at_48) rfl k) ?_
  refine own_go (B := T87.setTop (mkF m 51 #[.val (.long p1), .second, .val (.long p2), .second, .val (.long p3), .second, .val (.int p4), .val (.int p5), .val (.int p6), .val (.int cd), .val (.int rs), .val (.int mx), .val (.int my), .val (.int lo), .val (.int hi), .val (.int fz), .unset, .unset, .unset, .unset, .unset, .unset, .unset, .unset, .unset, .unset, .unset, .unset] [(.int (p3.toInt32))])) (fun t k => XS.l2i X87.here hx rfl (hb hby at_50) rfl k) ?_
  refine own_go (B := T87.setTop (mkF m 53 #[.val (.long p1), .second, .val (.long p2), .second, .val (.long p3), .second, .val (.int p4), .val (.int p5), .val (.int p6), .val (.int cd), .val (.int rs), .val (.int mx), .val (.int my), .val (.int lo), .val (.int hi), .val (.int fz), .val (.int (p3.toInt32)), .unset, .unset, .unset, .unset, .unset, .unset, .unset, .unset, .unset, .unset, .unset] [])) (fun t k => XS.istore X87.here hx rfl (hb hby at_51) rfl (l' := #[.val (.long p1), .second, .val (.long p2), .second, .val (.long p3), .second, .val (.int p4), .val (.int p5), .val (.int p6), .val (.int cd), .val (.int rs), .val (.int mx), .val (.int my), .val (.int lo), .val (.int hi), .val (.int fz), .val (.int (p3.toInt32)), .unset, .unset, .unset, .unset, .unset, .unset, .unset, .unset, .unset, .unset, .unset]) rfl k) ?_
  obtain ⟨ft, hft⟩ : ∃ z, z = (p3.toInt32) := ⟨_, rfl⟩
  rw [← hft]
  refine own_go (B := T87.setTop (mkF m 55 #[.val (.long p1), .second, .val (.long p2), .second, .val (.long p3), .second, .val (.int p4), .val (.int p5), .val (.int p6), .val (.int cd), .val (.int rs), .val (.int mx), .val (.int my), .val (.int lo), .val (.int hi), .val (.int fz), .val (.int ft), .unset, .unset, .unset, .unset, .unset, .unset, .unset, .unset, .unset, .unset, .unset] [(.int p4)])) (fun t k => XS.iload X87.here hx rfl (hb hby at_53) rfl k) ?_
  refine own_go (B := T87.setTop (mkF m 57 #[.val (.long p1), .second, .val (.long p2), .second, .val (.long p3), .second, .val (.int p4), .val (.int p5), .val (.int p6), .val (.int cd), .val (.int rs), .val (.int mx), .val (.int my), .val (.int lo), .val (.int hi), .val (.int fz), .val (.int ft), .unset, .unset, .unset, .unset, .unset, .unset, .unset, .unset, .unset, .unset, .unset] [(.int (7 : Int32)), (.int p4)])) (fun t k => XS.bipush X87.here hx rfl (hb hby at_55) k) ?_
  refine own_go (B := T87.setTop (mkF m 58 #[.val (.long p1), .second, .val (.long p2), .second, .val (.long p3), .second, .val (.int p4), .val (.int p5), .val (.int p6), .val (.int cd), .val (.int rs), .val (.int mx), .val (.int my), .val (.int lo), .val (.int hi), .val (.int fz), .val (.int ft), .unset, .unset, .unset, .unset, .unset, .unset, .unset, .unset, .unset, .unset, .unset] [(.int (p4 &&& (7 : Int32)))])) (fun t k => XS.iand X87.here hx rfl (hb hby at_57) rfl k) ?_
  refine own_go (B := T87.setTop (mkF m 60 #[.val (.long p1), .second, .val (.long p2), .second, .val (.long p3), .second, .val (.int p4), .val (.int p5), .val (.int p6), .val (.int cd), .val (.int rs), .val (.int mx), .val (.int my), .val (.int lo), .val (.int hi), .val (.int fz), .val (.int ft), .val (.int (p4 &&& (7 : Int32))), .unset, .unset, .unset, .unset, .unset, .unset, .unset, .unset, .unset, .unset] [])) (fun t k => XS.istore X87.here hx rfl (hb hby at_58) rfl (l' := #[.val (.long p1), .second, .val (.long p2), .second, .val (.long p3), .second, .val (.int p4), .val (.int p5), .val (.int p6), .val (.int cd), .val (.int rs), .val (.int mx), .val (.int my), .val (.int lo), .val (.int hi), .val (.int fz), .val (.int ft), .val (.int (p4 &&& (7 : Int32))), .unset, .unset, .unset, .unset, .unset, .unset, .unset, .unset, .unset, .unset]) rfl k) ?_
  obtain ⟨kk, hkk⟩ : ∃ z, z = (p4 &&& (7 : Int32)) := ⟨_, rfl⟩
  rw [← hkk]
  refine own_go (B := T87.setTop (mkF m 62 #[.val (.long p1), .second, .val (.long p2), .second, .val (.long p3), .second, .val (.int p4), .val (.int p5), .val (.int p6), .val (.int cd), .val (.int rs), .val (.int mx), .val (.int my), .val (.int lo), .val (.int hi), .val (.int fz), .val (.int ft), .val (.int kk), .unset, .unset, .unset, .unset, .unset, .unset, .unset, .unset, .unset, .unset] [(.int kk)])) (fun t k => XS.iload X87.here hx rfl (hb hby at_60) rfl k) ?_
  have J88 : ∀ z88 : Int32, own_Ends p.tables e below (T87.setTop (mkF m 72 #[.val (.long p1), .second, .val (.long p2), .second, .val (.long p3), .second, .val (.int p4), .val (.int p5), .val (.int p6), .val (.int cd), .val (.int rs), .val (.int mx), .val (.int my), .val (.int lo), .val (.int hi), .val (.int fz), .val (.int ft), .val (.int kk), .unset, .unset, .unset, .unset, .unset, .unset, .unset, .unset, .unset, .unset] [(.int z88)])) K := by
    intro z88
    refine own_go (B := T87.setTop (mkF m 74 #[.val (.long p1), .second, .val (.long p2), .second, .val (.long p3), .second, .val (.int p4), .val (.int p5), .val (.int p6), .val (.int cd), .val (.int rs), .val (.int mx), .val (.int my), .val (.int lo), .val (.int hi), .val (.int fz), .val (.int ft), .val (.int kk), .val (.int z88), .unset, .unset, .unset, .unset, .unset, .unset, .unset, .unset, .unset] [])) (fun t k => XS.istore X87.here hx rfl (hb hby at_72) rfl (l' := #[.val (.long p1), .second, .val (.long p2), .second, .val (.long p3), .second, .val (.int p4), .val (.int p5), .val (.int p6), .val (.int cd), .val (.int rs), .val (.int mx), .val (.int my), .val (.int lo), .val (.int hi), .val (.int fz), .val (.int ft), .val (.int kk), .val (.int z88), .unset, .unset, .unset, .unset, .unset, .unset, .unset, .unset, .unset]) rfl k) ?_
    refine own_go (B := T87.setTop (mkF m 76 #[.val (.long p1), .second, .val (.long p2), .second, .val (.long p3), .second, .val (.int p4), .val (.int p5), .val (.int p6), .val (.int cd), .val (.int rs), .val (.int mx), .val (.int my), .val (.int lo), .val (.int hi), .val (.int fz), .val (.int ft), .val (.int kk), .val (.int z88), .unset, .unset, .unset, .unset, .unset, .unset, .unset, .unset, .unset] [(.int kk)])) (fun t k => XS.iload X87.here hx rfl (hb hby at_74) rfl k) ?_
    refine own_go (B := T87.setTop (mkF m 77 #[.val (.long p1), .second, .val (.long p2), .second, .val (.long p3), .second, .val (.int p4), .val (.int p5), .val (.int p6), .val (.int cd), .val (.int rs), .val (.int mx), .val (.int my), .val (.int lo), .val (.int hi), .val (.int fz), .val (.int ft), .val (.int kk), .val (.int z88), .unset, .unset, .unset, .unset, .unset, .unset, .unset, .unset, .unset] [(.int (1 : Int32)), (.int kk)])) (fun t k => XS.iconst X87.here hx rfl (hb hby at_76) k) ?_
    have J89 : ∀ (T89 : State) (lc89 : List Loc) (X89 : Stand p l e room_1 s m #[(.long p1), (.long p2), (.long p3), (.int p4), (.int p5), (.int p6)] below meth c T89 lc89 0 0) (N89 : Fr n0 lc89) (e89 : T89.heap = h0) (lo2 : Int32) (hi2 : Int32), ¬ (hi2 < lo2) → own_Ends p.tables e below (T89.setTop (mkF m 114 #[.val (.long p1), .second, .val (.long p2), .second, .val (.long p3), .second, .val (.int p4), .val (.int p5), .val (.int p6), .val (.int cd), .val (.int rs), .val (.int mx), .val (.int my), .val (.int lo), .val (.int hi), .val (.int fz), .val (.int ft), .val (.int kk), .val (.int z88), .val (.int lo2), .val (.int hi2), .unset, .unset, .unset, .unset, .unset, .unset, .unset] [])) K := by
      intro T89 lc89 X89 N89 e89 lo2 hi2 hrel89
      have hle_lo2 := hrel89
      refine own_go (B := T89.setTop (mkF m 116 #[.val (.long p1), .second, .val (.long p2), .second, .val (.long p3), .second, .val (.int p4), .val (.int p5), .val (.int p6), .val (.int cd), .val (.int rs), .val (.int mx), .val (.int my), .val (.int lo), .val (.int hi), .val (.int fz), .val (.int ft), .val (.int kk), .val (.int z88), .val (.int lo2), .val (.int hi2), .unset, .unset, .unset, .unset, .unset, .unset, .unset] [(.int kk)])) (fun t k => XS.iload X89.here hx rfl (hb hby at_114) rfl k) ?_
      refine own_go (B := T89.setTop (mkF m 117 #[.val (.long p1), .second, .val (.long p2), .second, .val (.long p3), .second, .val (.int p4), .val (.int p5), .val (.int p6), .val (.int cd), .val (.int rs), .val (.int mx), .val (.int my), .val (.int lo), .val (.int hi), .val (.int fz), .val (.int ft), .val (.int kk), .val (.int z88), .val (.int lo2), .val (.int hi2), .unset, .unset, .unset, .unset, .unset, .unset, .unset] [(.int (3 : Int32)), (.int kk)])) (fun t k => XS.iconst X89.here hx rfl (hb hby at_116) k) ?_
      have J90 : ∀ z90 : Int32, own_Ends p.tables e below (T89.setTop (mkF m 127 #[.val (.long p1), .second, .val (.long p2), .second, .val (.long p3), .second, .val (.int p4), .val (.int p5), .val (.int p6), .val (.int cd), .val (.int rs), .val (.int mx), .val (.int my), .val (.int lo), .val (.int hi), .val (.int fz), .val (.int ft), .val (.int kk), .val (.int z88), .val (.int lo2), .val (.int hi2), .unset, .unset, .unset, .unset, .unset, .unset, .unset] [(.int z90)])) K := by
        intro z90
        refine own_go (B := T89.setTop (mkF m 129 #[.val (.long p1), .second, .val (.long p2), .second, .val (.long p3), .second, .val (.int p4), .val (.int p5), .val (.int p6), .val (.int cd), .val (.int rs), .val (.int mx), .val (.int my), .val (.int lo), .val (.int hi), .val (.int fz), .val (.int ft), .val (.int kk), .val (.int z88), .val (.int lo2), .val (.int hi2), .val (.int z90), .unset, .unset, .unset, .unset, .unset, .unset] [])) (fun t k => XS.istore X89.here hx rfl (hb hby at_127) rfl (l' := #[.val (.long p1), .second, .val (.long p2), .second, .val (.long p3), .second, .val (.int p4), .val (.int p5), .val (.int p6), .val (.int cd), .val (.int rs), .val (.int mx), .val (.int my), .val (.int lo), .val (.int hi), .val (.int fz), .val (.int ft), .val (.int kk), .val (.int z88), .val (.int lo2), .val (.int hi2), .val (.int z90), .unset, .unset, .unset, .unset, .unset, .unset]) rfl k) ?_
        refine own_go (B := T89.setTop (mkF m 131 #[.val (.long p1), .second, .val (.long p2), .second, .val (.long p3), .second, .val (.int p4), .val (.int p5), .val (.int p6), .val (.int cd), .val (.int rs), .val (.int mx), .val (.int my), .val (.int lo), .val (.int hi), .val (.int fz), .val (.int ft), .val (.int kk), .val (.int z88), .val (.int lo2), .val (.int hi2), .val (.int z90), .unset, .unset, .unset, .unset, .unset, .unset] [(.int kk)])) (fun t k => XS.iload X89.here hx rfl (hb hby at_129) rfl k) ?_
        refine own_go (B := T89.setTop (mkF m 132 #[.val (.long p1), .second, .val (.long p2), .second, .val (.long p3), .second, .val (.int p4), .val (.int p5), .val (.int p6), .val (.int cd), .val (.int rs), .val (.int mx), .val (.int my), .val (.int lo), .val (.int hi), .val (.int fz), .val (.int ft), .val (.int kk), .val (.int z88), .val (.int lo2), .val (.int hi2), .val (.int z90), .unset, .unset, .unset, .unset, .unset, .unset] [(.int (4 : Int32)), (.int kk)])) (fun t k => XS.iconst X89.here hx rfl (hb hby at_131) k) ?_
        have J91 : ∀ z91 : Int32, own_Ends p.tables e below (T89.setTop (mkF m 142 #[.val (.long p1), .second, .val (.long p2), .second, .val (.long p3), .second, .val (.int p4), .val (.int p5), .val (.int p6), .val (.int cd), .val (.int rs), .val (.int mx), .val (.int my), .val (.int lo), .val (.int hi), .val (.int fz), .val (.int ft), .val (.int kk), .val (.int z88), .val (.int lo2), .val (.int hi2), .val (.int z90), .unset, .unset, .unset, .unset, .unset, .unset] [(.int z91)])) K := by
          intro z91
          refine own_go (B := T89.setTop (mkF m 144 #[.val (.long p1), .second, .val (.long p2), .second, .val (.long p3), .second, .val (.int p4), .val (.int p5), .val (.int p6), .val (.int cd), .val (.int rs), .val (.int mx), .val (.int my), .val (.int lo), .val (.int hi), .val (.int fz), .val (.int ft), .val (.int kk), .val (.int z88), .val (.int lo2), .val (.int hi2), .val (.int z90), .val (.int z91), .unset, .unset, .unset, .unset, .unset] [])) (fun t k => XS.istore X89.here hx rfl (hb hby at_142) rfl (l' := #[.val (.long p1), .second, .val (.long p2), .second, .val (.long p3), .second, .val (.int p4), .val (.int p5), .val (.int p6), .val (.int cd), .val (.int rs), .val (.int mx), .val (.int my), .val (.int lo), .val (.int hi), .val (.int fz), .val (.int ft), .val (.int kk), .val (.int z88), .val (.int lo2), .val (.int hi2), .val (.int z90), .val (.int z91), .unset, .unset, .unset, .unset, .unset]) rfl k) ?_
          refine own_go (B := T89.setTop (mkF m 146 #[.val (.long p1), .second, .val (.long p2), .second, .val (.long p3), .second, .val (.int p4), .val (.int p5), .val (.int p6), .val (.int cd), .val (.int rs), .val (.int mx), .val (.int my), .val (.int lo), .val (.int hi), .val (.int fz), .val (.int ft), .val (.int kk), .val (.int z88), .val (.int lo2), .val (.int hi2), .val (.int z90), .val (.int z91), .unset, .unset, .unset, .unset, .unset] [(.int kk)])) (fun t k => XS.iload X89.here hx rfl (hb hby at_144) rfl k) ?_
          refine own_go (B := T89.setTop (mkF m 147 #[.val (.long p1), .second, .val (.long p2), .second, .val (.long p3), .second, .val (.int p4), .val (.int p5), .val (.int p6), .val (.int cd), .val (.int rs), .val (.int mx), .val (.int my), .val (.int lo), .val (.int hi), .val (.int fz), .val (.int ft), .val (.int kk), .val (.int z88), .val (.int lo2), .val (.int hi2), .val (.int z90), .val (.int z91), .unset, .unset, .unset, .unset, .unset] [(.int (5 : Int32)), (.int kk)])) (fun t k => XS.iconst X89.here hx rfl (hb hby at_146) k) ?_
          have J92 : ∀ z92 : Int32, own_Ends p.tables e below (T89.setTop (mkF m 157 #[.val (.long p1), .second, .val (.long p2), .second, .val (.long p3), .second, .val (.int p4), .val (.int p5), .val (.int p6), .val (.int cd), .val (.int rs), .val (.int mx), .val (.int my), .val (.int lo), .val (.int hi), .val (.int fz), .val (.int ft), .val (.int kk), .val (.int z88), .val (.int lo2), .val (.int hi2), .val (.int z90), .val (.int z91), .unset, .unset, .unset, .unset, .unset] [(.int z92)])) K := by
            intro z92
            refine own_go (B := T89.setTop (mkF m 159 #[.val (.long p1), .second, .val (.long p2), .second, .val (.long p3), .second, .val (.int p4), .val (.int p5), .val (.int p6), .val (.int cd), .val (.int rs), .val (.int mx), .val (.int my), .val (.int lo), .val (.int hi), .val (.int fz), .val (.int ft), .val (.int kk), .val (.int z88), .val (.int lo2), .val (.int hi2), .val (.int z90), .val (.int z91), .val (.int z92), .unset, .unset, .unset, .unset] [])) (fun t k => XS.istore X89.here hx rfl (hb hby at_157) rfl (l' := #[.val (.long p1), .second, .val (.long p2), .second, .val (.long p3), .second, .val (.int p4), .val (.int p5), .val (.int p6), .val (.int cd), .val (.int rs), .val (.int mx), .val (.int my), .val (.int lo), .val (.int hi), .val (.int fz), .val (.int ft), .val (.int kk), .val (.int z88), .val (.int lo2), .val (.int hi2), .val (.int z90), .val (.int z91), .val (.int z92), .unset, .unset, .unset, .unset]) rfl k) ?_
            obtain ⟨T93, h93, X93, e93, E93, A93, D93, -, st93⟩ := newO X89 hx hZ hown (hw _ (List.mem_of_getElem? (i := 7) rfl)) (hw _ (List.mem_of_getElem? (i := 8) rfl)) (hw _ (List.mem_of_getElem? (i := 9) rfl)) e89 (g := (mkF m 159 #[.val (.long p1), .second, .val (.long p2), .second, .val (.long p3), .second, .val (.int p4), .val (.int p5), .val (.int p6), .val (.int cd), .val (.int rs), .val (.int mx), .val (.int my), .val (.int lo), .val (.int hi), .val (.int fz), .val (.int ft), .val (.int kk), .val (.int z88), .val (.int lo2), .val (.int hi2), .val (.int z90), .val (.int z91), .val (.int z92), .unset, .unset, .unset, .unset] [])) rfl (hb hby at_159) (by decide) (by decide)
            obtain ⟨b93, g93⟩ : ∃ z, z = h0.size := ⟨_, rfl⟩
            rw [← g93] at A93 D93 st93
            have g_b93 : n0 ≤ b93 := Nat.le_trans (own_n0 O0) (Nat.le_of_eq g93.symm)
            have O93 := O0.ext E93
            have F93_17 : Fld Z h93 b93 "com/example/helm_of_panes/helmofpanes/input/AbsoluteAxis" "code" "I" (.int (0 : Int32)) := D93 (Or.inr (hw _ (List.mem_of_getElem? (i := 17) rfl))) (ty := .int) (by decide)
            have F93_19 : Fld Z h93 b93 "com/example/helm_of_panes/helmofpanes/input/AbsoluteAxis" "minimum" "I" (.int (0 : Int32)) := D93 (Or.inr (hw _ (List.mem_of_getElem? (i := 19) rfl))) (ty := .int) (by decide)
            have F93_21 : Fld Z h93 b93 "com/example/helm_of_panes/helmofpanes/input/AbsoluteAxis" "maximum" "I" (.int (0 : Int32)) := D93 (Or.inr (hw _ (List.mem_of_getElem? (i := 21) rfl))) (ty := .int) (by decide)
            have F93_23 : Fld Z h93 b93 "com/example/helm_of_panes/helmofpanes/input/AbsoluteAxis" "fuzz" "I" (.int (0 : Int32)) := D93 (Or.inr (hw _ (List.mem_of_getElem? (i := 23) rfl))) (ty := .int) (by decide)
            have F93_25 : Fld Z h93 b93 "com/example/helm_of_panes/helmofpanes/input/AbsoluteAxis" "flat" "I" (.int (0 : Int32)) := D93 (Or.inr (hw _ (List.mem_of_getElem? (i := 25) rfl))) (ty := .int) (by decide)
            have F93_27 : Fld Z h93 b93 "com/example/helm_of_panes/helmofpanes/input/AbsoluteAxis" "resolution" "I" (.int (0 : Int32)) := D93 (Or.inr (hw _ (List.mem_of_getElem? (i := 27) rfl))) (ty := .int) (by decide)
            refine own_go (B := T93.setTop (mkF m 162 #[.val (.long p1), .second, .val (.long p2), .second, .val (.long p3), .second, .val (.int p4), .val (.int p5), .val (.int p6), .val (.int cd), .val (.int rs), .val (.int mx), .val (.int my), .val (.int lo), .val (.int hi), .val (.int fz), .val (.int ft), .val (.int kk), .val (.int z88), .val (.int lo2), .val (.int hi2), .val (.int z90), .val (.int z91), .val (.int z92), .unset, .unset, .unset, .unset] [(.ref b93)])) (fun t k => st93 _ k) ?_
            refine own_go (B := T93.setTop (mkF m 163 #[.val (.long p1), .second, .val (.long p2), .second, .val (.long p3), .second, .val (.int p4), .val (.int p5), .val (.int p6), .val (.int cd), .val (.int rs), .val (.int mx), .val (.int my), .val (.int lo), .val (.int hi), .val (.int fz), .val (.int ft), .val (.int kk), .val (.int z88), .val (.int lo2), .val (.int hi2), .val (.int z90), .val (.int z91), .val (.int z92), .unset, .unset, .unset, .unset] [(.ref b93), (.ref b93)])) (fun t k => XS.dup X93.here hx rfl (hb hby at_162) rfl rfl k) ?_
            refine own_go (B := T93.setTop (mkF m 165 #[.val (.long p1), .second, .val (.long p2), .second, .val (.long p3), .second, .val (.int p4), .val (.int p5), .val (.int p6), .val (.int cd), .val (.int rs), .val (.int mx), .val (.int my), .val (.int lo), .val (.int hi), .val (.int fz), .val (.int ft), .val (.int kk), .val (.int z88), .val (.int lo2), .val (.int hi2), .val (.int z90), .val (.int z91), .val (.int z92), .unset, .unset, .unset, .unset] [(.int cd), (.ref b93), (.ref b93)])) (fun t k => XS.iload X93.here hx rfl (hb hby at_163) rfl k) ?_
            refine own_go (B := T93.setTop (mkF m 167 #[.val (.long p1), .second, .val (.long p2), .second, .val (.long p3), .second, .val (.int p4), .val (.int p5), .val (.int p6), .val (.int cd), .val (.int rs), .val (.int mx), .val (.int my), .val (.int lo), .val (.int hi), .val (.int fz), .val (.int ft), .val (.int kk), .val (.int z88), .val (.int lo2), .val (.int hi2), .val (.int z90), .val (.int z91), .val (.int z92), .unset, .unset, .unset, .unset] [(.int lo), (.int cd), (.ref b93), (.ref b93)])) (fun t k => XS.iload X93.here hx rfl (hb hby at_165) rfl k) ?_
            refine own_go (B := T93.setTop (mkF m 169 #[.val (.long p1), .second, .val (.long p2), .second, .val (.long p3), .second, .val (.int p4), .val (.int p5), .val (.int p6), .val (.int cd), .val (.int rs), .val (.int mx), .val (.int my), .val (.int lo), .val (.int hi), .val (.int fz), .val (.int ft), .val (.int kk), .val (.int z88), .val (.int lo2), .val (.int hi2), .val (.int z90), .val (.int z91), .val (.int z92), .unset, .unset, .unset, .unset] [(.int hi), (.int lo), (.int cd), (.ref b93), (.ref b93)])) (fun t k => XS.iload X93.here hx rfl (hb hby at_167) rfl k) ?_
            refine own_go (B := T93.setTop (mkF m 171 #[.val (.long p1), .second, .val (.long p2), .second, .val (.long p3), .second, .val (.int p4), .val (.int p5), .val (.int p6), .val (.int cd), .val (.int rs), .val (.int mx), .val (.int my), .val (.int lo), .val (.int hi), .val (.int fz), .val (.int ft), .val (.int kk), .val (.int z88), .val (.int lo2), .val (.int hi2), .val (.int z90), .val (.int z91), .val (.int z92), .unset, .unset, .unset, .unset] [(.int fz), (.int hi), (.int lo), (.int cd), (.ref b93), (.ref b93)])) (fun t k => XS.iload X93.here hx rfl (hb hby at_169) rfl k) ?_
            refine own_go (B := T93.setTop (mkF m 173 #[.val (.long p1), .second, .val (.long p2), .second, .val (.long p3), .second, .val (.int p4), .val (.int p5), .val (.int p6), .val (.int cd), .val (.int rs), .val (.int mx), .val (.int my), .val (.int lo), .val (.int hi), .val (.int fz), .val (.int ft), .val (.int kk), .val (.int z88), .val (.int lo2), .val (.int hi2), .val (.int z90), .val (.int z91), .val (.int z92), .unset, .unset, .unset, .unset] [(.int ft), (.int fz), (.int hi), (.int lo), (.int cd), (.ref b93), (.ref b93)])) (fun t k => XS.iload X93.here hx rfl (hb hby at_171) rfl k) ?_
            refine own_go (B := T93.setTop (mkF m 175 #[.val (.long p1), .second, .val (.long p2), .second, .val (.long p3), .second, .val (.int p4), .val (.int p5), .val (.int p6), .val (.int cd), .val (.int rs), .val (.int mx), .val (.int my), .val (.int lo), .val (.int hi), .val (.int fz), .val (.int ft), .val (.int kk), .val (.int z88), .val (.int lo2), .val (.int hi2), .val (.int z90), .val (.int z91), .val (.int z92), .unset, .unset, .unset, .unset] [(.int rs), (.int ft), (.int fz), (.int hi), (.int lo), (.int cd), (.ref b93), (.ref b93)])) (fun t k => XS.iload X93.here hx rfl (hb hby at_173) rfl k) ?_
            obtain ⟨_, _, ⟨T94, L94, k94, n94⟩, -, X94, ⟨Lc94, hQ94, l94, y94, z94⟩, st94⟩ := X93.specialBack hx (y := (⟨"com/example/helm_of_panes/helmofpanes/input/AbsoluteAxis", "<init>", "(IIIIII)V"⟩ : MethodName)) rfl hown (mvT hZ (hw _ (List.mem_of_getElem? (i := 10) rfl))) (mvT hZ (hw _ (List.mem_of_getElem? (i := 11) rfl))) (mvT hZ (hw _ (List.mem_of_getElem? (i := 12) rfl))) (by decide) (backOf (W := 1) (own_rm_ainit l Z a0 hw [] b93 cd lo hi fz ft rs h93 n0 O93 A93 g_b93 F93_17 F93_19 F93_21 F93_23 F93_25 F93_27 hle_lo) hZ (hw _ (List.mem_of_getElem? (i := 12) rfl)) (hw _ (List.mem_of_getElem? (i := 9) rfl)) (by decide) (by decide)) (g := (mkF m 175 #[.val (.long p1), .second, .val (.long p2), .second, .val (.long p3), .second, .val (.int p4), .val (.int p5), .val (.int p6), .val (.int cd), .val (.int rs), .val (.int mx), .val (.int my), .val (.int lo), .val (.int hi), .val (.int fz), .val (.int ft), .val (.int kk), .val (.int z88), .val (.int lo2), .val (.int hi2), .val (.int z90), .val (.int z91), .val (.int z92), .unset, .unset, .unset, .unset] [(.int rs), (.int ft), (.int fz), (.int hi), (.int lo), (.int cd), (.ref b93), (.ref b93)])) rfl (by rw [hml]; rfl) (Steps.refl _) (a := b93) (argsL := [(.int cd), (.int lo), (.int hi), (.int fz), (.int ft), (.int rs)]) (rest := [(.ref b93)]) (lenOf own_pd_3 rfl) rfl (by show 2 * 0 + _ ≤ _; exact Nat.le_of_eq rfl) (hb hby at_175) (fun _ _ => ⟨rfl, e93, (by decide : 1 + 0 ≤ _), (by decide : 6 + 0 ≤ _)⟩)
            dsimp only [Pt.U, Pt.locs, Pt.cells, Pt.slots] at X94 l94 y94 z94 st94 hQ94
            subst l94 y94 z94
            obtain ⟨rfl, N94q, Kc94, En94, Fn94_0, Fn94_1, Fn94_2, Fn94_3, Fn94_4, Fn94_5⟩ := hQ94
            have O94 := O93.keep Kc94 (allS g_b93 all0)
            have N94 := Fr.app N89 N94q
            refine own_go (B := T94.setTop (mkF m 178 #[.val (.long p1), .second, .val (.long p2), .second, .val (.long p3), .second, .val (.int p4), .val (.int p5), .val (.int p6), .val (.int cd), .val (.int rs), .val (.int mx), .val (.int my), .val (.int lo), .val (.int hi), .val (.int fz), .val (.int ft), .val (.int kk), .val (.int z88), .val (.int lo2), .val (.int hi2), .val (.int z90), .val (.int z91), .val (.int z92), .unset, .unset, .unset, .unset] [(.ref b93)])) (fun t k => st94.trans k) ?_
            refine own_go (B := T94.setTop (mkF m 180 #[.val (.long p1), .second, .val (.long p2), .second, .val (.long p3), .second, .val (.int p4), .val (.int p5), .val (.int p6), .val (.int cd), .val (.int rs), .val (.int mx), .val (.int my), .val (.int lo), .val (.int hi), .val (.int fz), .val (.int ft), .val (.int kk), .val (.int z88), .val (.int lo2), .val (.int hi2), .val (.int z90), .val (.int z91), .val (.int z92), .val (.ref b93), .unset, .unset, .unset] [])) (fun t k => XS.astore X94.here hx rfl (hb hby at_178) rfl rfl (l' := #[.val (.long p1), .second, .val (.long p2), .second, .val (.long p3), .second, .val (.int p4), .val (.int p5), .val (.int p6), .val (.int cd), .val (.int rs), .val (.int mx), .val (.int my), .val (.int lo), .val (.int hi), .val (.int fz), .val (.int ft), .val (.int kk), .val (.int z88), .val (.int lo2), .val (.int hi2), .val (.int z90), .val (.int z91), .val (.int z92), .val (.ref b93), .unset, .unset, .unset]) rfl k) ?_
            obtain ⟨T95, h95, X95, e95, E95, A95, D95, -, st95⟩ := newO X94 hx hZ hown (hw _ (List.mem_of_getElem? (i := 7) rfl)) (hw _ (List.mem_of_getElem? (i := 8) rfl)) (hw _ (List.mem_of_getElem? (i := 9) rfl)) (rfl : T94.heap = T94.heap) (g := (mkF m 180 #[.val (.long p1), .second, .val (.long p2), .second, .val (.long p3), .second, .val (.int p4), .val (.int p5), .val (.int p6), .val (.int cd), .val (.int rs), .val (.int mx), .val (.int my), .val (.int lo), .val (.int hi), .val (.int fz), .val (.int ft), .val (.int kk), .val (.int z88), .val (.int lo2), .val (.int hi2), .val (.int z90), .val (.int z91), .val (.int z92), .val (.ref b93), .unset, .unset, .unset] [])) rfl (hb hby at_180) (by decide) (by decide)
            obtain ⟨b95, g95⟩ : ∃ z, z = T94.heap.size := ⟨_, rfl⟩
            rw [← g95] at A95 D95 st95
            have f96 := (A93.keep Kc94)
            have lt_b93_95 := f96.lt
            have g_b95 : n0 ≤ b95 := Nat.le_trans (own_n0 O94) (Nat.le_of_eq g95.symm)
            have O95 := O94.ext E95
            have F95_17 : Fld Z h95 b95 "com/example/helm_of_panes/helmofpanes/input/AbsoluteAxis" "code" "I" (.int (0 : Int32)) := D95 (Or.inr (hw _ (List.mem_of_getElem? (i := 17) rfl))) (ty := .int) (by decide)
            have F95_19 : Fld Z h95 b95 "com/example/helm_of_panes/helmofpanes/input/AbsoluteAxis" "minimum" "I" (.int (0 : Int32)) := D95 (Or.inr (hw _ (List.mem_of_getElem? (i := 19) rfl))) (ty := .int) (by decide)
            have F95_21 : Fld Z h95 b95 "com/example/helm_of_panes/helmofpanes/input/AbsoluteAxis" "maximum" "I" (.int (0 : Int32)) := D95 (Or.inr (hw _ (List.mem_of_getElem? (i := 21) rfl))) (ty := .int) (by decide)
            have F95_23 : Fld Z h95 b95 "com/example/helm_of_panes/helmofpanes/input/AbsoluteAxis" "fuzz" "I" (.int (0 : Int32)) := D95 (Or.inr (hw _ (List.mem_of_getElem? (i := 23) rfl))) (ty := .int) (by decide)
            have F95_25 : Fld Z h95 b95 "com/example/helm_of_panes/helmofpanes/input/AbsoluteAxis" "flat" "I" (.int (0 : Int32)) := D95 (Or.inr (hw _ (List.mem_of_getElem? (i := 25) rfl))) (ty := .int) (by decide)
            have F95_27 : Fld Z h95 b95 "com/example/helm_of_panes/helmofpanes/input/AbsoluteAxis" "resolution" "I" (.int (0 : Int32)) := D95 (Or.inr (hw _ (List.mem_of_getElem? (i := 27) rfl))) (ty := .int) (by decide)
            refine own_go (B := T95.setTop (mkF m 183 #[.val (.long p1), .second, .val (.long p2), .second, .val (.long p3), .second, .val (.int p4), .val (.int p5), .val (.int p6), .val (.int cd), .val (.int rs), .val (.int mx), .val (.int my), .val (.int lo), .val (.int hi), .val (.int fz), .val (.int ft), .val (.int kk), .val (.int z88), .val (.int lo2), .val (.int hi2), .val (.int z90), .val (.int z91), .val (.int z92), .val (.ref b93), .unset, .unset, .unset] [(.ref b95)])) (fun t k => st95 _ k) ?_
            refine own_go (B := T95.setTop (mkF m 184 #[.val (.long p1), .second, .val (.long p2), .second, .val (.long p3), .second, .val (.int p4), .val (.int p5), .val (.int p6), .val (.int cd), .val (.int rs), .val (.int mx), .val (.int my), .val (.int lo), .val (.int hi), .val (.int fz), .val (.int ft), .val (.int kk), .val (.int z88), .val (.int lo2), .val (.int hi2), .val (.int z90), .val (.int z91), .val (.int z92), .val (.ref b93), .unset, .unset, .unset] [(.ref b95), (.ref b95)])) (fun t k => XS.dup X95.here hx rfl (hb hby at_183) rfl rfl k) ?_
            refine own_go (B := T95.setTop (mkF m 186 #[.val (.long p1), .second, .val (.long p2), .second, .val (.long p3), .second, .val (.int p4), .val (.int p5), .val (.int p6), .val (.int cd), .val (.int rs), .val (.int mx), .val (.int my), .val (.int lo), .val (.int hi), .val (.int fz), .val (.int ft), .val (.int kk), .val (.int z88), .val (.int lo2), .val (.int hi2), .val (.int z90), .val (.int z91), .val (.int z92), .val (.ref b93), .unset, .unset, .unset] [(.int z88), (.ref b95), (.ref b95)])) (fun t k => XS.iload X95.here hx rfl (hb hby at_184) rfl k) ?_
            refine own_go (B := T95.setTop (mkF m 188 #[.val (.long p1), .second, .val (.long p2), .second, .val (.long p3), .second, .val (.int p4), .val (.int p5), .val (.int p6), .val (.int cd), .val (.int rs), .val (.int mx), .val (.int my), .val (.int lo), .val (.int hi), .val (.int fz), .val (.int ft), .val (.int kk), .val (.int z88), .val (.int lo2), .val (.int hi2), .val (.int z90), .val (.int z91), .val (.int z92), .val (.ref b93), .unset, .unset, .unset] [(.int lo2), (.int z88), (.ref b95), (.ref b95)])) (fun t k => XS.iload X95.here hx rfl (hb hby at_186) rfl k) ?_
            refine own_go (B := T95.setTop (mkF m 190 #[.val (.long p1), .second, .val (.long p2), .second, .val (.long p3), .second, .val (.int p4), .val (.int p5), .val (.int p6), .val (.int cd), .val (.int rs), .val (.int mx), .val (.int my), .val (.int lo), .val (.int hi), .val (.int fz), .val (.int ft), .val (.int kk), .val (.int z88), .val (.int lo2), .val (.int hi2), .val (.int z90), .val (.int z91), .val (.int z92), .val (.ref b93), .unset, .unset, .unset] [(.int hi2), (.int lo2), (.int z88), (.ref b95), (.ref b95)])) (fun t k => XS.iload X95.here hx rfl (hb hby at_188) rfl k) ?_
            refine own_go (B := T95.setTop (mkF m 192 #[.val (.long p1), .second, .val (.long p2), .second, .val (.long p3), .second, .val (.int p4), .val (.int p5), .val (.int p6), .val (.int cd), .val (.int rs), .val (.int mx), .val (.int my), .val (.int lo), .val (.int hi), .val (.int fz), .val (.int ft), .val (.int kk), .val (.int z88), .val (.int lo2), .val (.int hi2), .val (.int z90), .val (.int z91), .val (.int z92), .val (.ref b93), .unset, .unset, .unset] [(.int z90), (.int hi2), (.int lo2), (.int z88), (.ref b95), (.ref b95)])) (fun t k => XS.iload X95.here hx rfl (hb hby at_190) rfl k) ?_
            refine own_go (B := T95.setTop (mkF m 194 #[.val (.long p1), .second, .val (.long p2), .second, .val (.long p3), .second, .val (.int p4), .val (.int p5), .val (.int p6), .val (.int cd), .val (.int rs), .val (.int mx), .val (.int my), .val (.int lo), .val (.int hi), .val (.int fz), .val (.int ft), .val (.int kk), .val (.int z88), .val (.int lo2), .val (.int hi2), .val (.int z90), .val (.int z91), .val (.int z92), .val (.ref b93), .unset, .unset, .unset] [(.int z91), (.int z90), (.int hi2), (.int lo2), (.int z88), (.ref b95), (.ref b95)])) (fun t k => XS.iload X95.here hx rfl (hb hby at_192) rfl k) ?_
            refine own_go (B := T95.setTop (mkF m 196 #[.val (.long p1), .second, .val (.long p2), .second, .val (.long p3), .second, .val (.int p4), .val (.int p5), .val (.int p6), .val (.int cd), .val (.int rs), .val (.int mx), .val (.int my), .val (.int lo), .val (.int hi), .val (.int fz), .val (.int ft), .val (.int kk), .val (.int z88), .val (.int lo2), .val (.int hi2), .val (.int z90), .val (.int z91), .val (.int z92), .val (.ref b93), .unset, .unset, .unset] [(.int z92), (.int z91), (.int z90), (.int hi2), (.int lo2), (.int z88), (.ref b95), (.ref b95)])) (fun t k => XS.iload X95.here hx rfl (hb hby at_194) rfl k) ?_
            obtain ⟨_, _, ⟨T97, L97, k97, n97⟩, -, X97, ⟨Lc97, hQ97, l97, y97, z97⟩, st97⟩ := X95.specialBack hx (y := (⟨"com/example/helm_of_panes/helmofpanes/input/AbsoluteAxis", "<init>", "(IIIIII)V"⟩ : MethodName)) rfl hown (mvT hZ (hw _ (List.mem_of_getElem? (i := 10) rfl))) (mvT hZ (hw _ (List.mem_of_getElem? (i := 11) rfl))) (mvT hZ (hw _ (List.mem_of_getElem? (i := 12) rfl))) (by decide) (backOf (W := 1) (own_rm_ainit l Z a0 hw [] b95 z88 lo2 hi2 z90 z91 z92 h95 n0 O95 A95 g_b95 F95_17 F95_19 F95_21 F95_23 F95_25 F95_27 hle_lo2) hZ (hw _ (List.mem_of_getElem? (i := 12) rfl)) (hw _ (List.mem_of_getElem? (i := 9) rfl)) (by decide) (by decide)) (g := (mkF m 196 #[.val (.long p1), .second, .val (.long p2), .second, .val (.long p3), .second, .val (.int p4), .val (.int p5), .val (.int p6), .val (.int cd), .val (.int rs), .val (.int mx), .val (.int my), .val (.int lo), .val (.int hi), .val (.int fz), .val (.int ft), .val (.int kk), .val (.int z88), .val (.int lo2), .val (.int hi2), .val (.int z90), .val (.int z91), .val (.int z92), .val (.ref b93), .unset, .unset, .unset] [(.int z92), (.int z91), (.int z90), (.int hi2), (.int lo2), (.int z88), (.ref b95), (.ref b95)])) rfl (by rw [hml]; rfl) (Steps.refl _) (a := b95) (argsL := [(.int z88), (.int lo2), (.int hi2), (.int z90), (.int z91), (.int z92)]) (rest := [(.ref b95)]) (lenOf own_pd_3 rfl) rfl (by show 2 * 0 + _ ≤ _; exact Nat.le_of_eq rfl) (hb hby at_196) (fun _ _ => ⟨rfl, e95, (by decide : 2 + 0 ≤ _), (by decide : 12 + 0 ≤ _)⟩)
            dsimp only [Pt.U, Pt.locs, Pt.cells, Pt.slots] at X97 l97 y97 z97 st97 hQ97
            subst l97 y97 z97
            obtain ⟨rfl, N97q, Kc97, En97, Fn97_0, Fn97_1, Fn97_2, Fn97_3, Fn97_4, Fn97_5⟩ := hQ97
            have O97 := O95.keep Kc97 (allS g_b95 all0)
            have N97 := Fr.app N94 N97q
            refine own_go (B := T97.setTop (mkF m 199 #[.val (.long p1), .second, .val (.long p2), .second, .val (.long p3), .second, .val (.int p4), .val (.int p5), .val (.int p6), .val (.int cd), .val (.int rs), .val (.int mx), .val (.int my), .val (.int lo), .val (.int hi), .val (.int fz), .val (.int ft), .val (.int kk), .val (.int z88), .val (.int lo2), .val (.int hi2), .val (.int z90), .val (.int z91), .val (.int z92), .val (.ref b93), .unset, .unset, .unset] [(.ref b95)])) (fun t k => st97.trans k) ?_
            refine own_go (B := T97.setTop (mkF m 201 #[.val (.long p1), .second, .val (.long p2), .second, .val (.long p3), .second, .val (.int p4), .val (.int p5), .val (.int p6), .val (.int cd), .val (.int rs), .val (.int mx), .val (.int my), .val (.int lo), .val (.int hi), .val (.int fz), .val (.int ft), .val (.int kk), .val (.int z88), .val (.int lo2), .val (.int hi2), .val (.int z90), .val (.int z91), .val (.int z92), .val (.ref b93), .val (.ref b95), .unset, .unset] [])) (fun t k => XS.astore X97.here hx rfl (hb hby at_199) rfl rfl (l' := #[.val (.long p1), .second, .val (.long p2), .second, .val (.long p3), .second, .val (.int p4), .val (.int p5), .val (.int p6), .val (.int cd), .val (.int rs), .val (.int mx), .val (.int my), .val (.int lo), .val (.int hi), .val (.int fz), .val (.int ft), .val (.int kk), .val (.int z88), .val (.int lo2), .val (.int hi2), .val (.int z90), .val (.int z91), .val (.int z92), .val (.ref b93), .val (.ref b95), .unset, .unset]) rfl k) ?_
            refine own_go (B := T97.setTop (mkF m 203 #[.val (.long p1), .second, .val (.long p2), .second, .val (.long p3), .second, .val (.int p4), .val (.int p5), .val (.int p6), .val (.int cd), .val (.int rs), .val (.int mx), .val (.int my), .val (.int lo), .val (.int hi), .val (.int fz), .val (.int ft), .val (.int kk), .val (.int z88), .val (.int lo2), .val (.int hi2), .val (.int z90), .val (.int z91), .val (.int z92), .val (.ref b93), .val (.ref b95), .unset, .unset] [(.int p6)])) (fun t k => XS.iload X97.here hx rfl (hb hby at_201) rfl k) ?_
            refine own_go (B := T97.setTop (mkF m 204 #[.val (.long p1), .second, .val (.long p2), .second, .val (.long p3), .second, .val (.int p4), .val (.int p5), .val (.int p6), .val (.int cd), .val (.int rs), .val (.int mx), .val (.int my), .val (.int lo), .val (.int hi), .val (.int fz), .val (.int ft), .val (.int kk), .val (.int z88), .val (.int lo2), .val (.int hi2), .val (.int z90), .val (.int z91), .val (.int z92), .val (.ref b93), .val (.ref b95), .unset, .unset] [(.int (3 : Int32)), (.int p6)])) (fun t k => XS.iconst X97.here hx rfl (hb hby at_203) k) ?_
            refine own_go (B := T97.setTop (mkF m 205 #[.val (.long p1), .second, .val (.long p2), .second, .val (.long p3), .second, .val (.int p4), .val (.int p5), .val (.int p6), .val (.int cd), .val (.int rs), .val (.int mx), .val (.int my), .val (.int lo), .val (.int hi), .val (.int fz), .val (.int ft), .val (.int kk), .val (.int z88), .val (.int lo2), .val (.int hi2), .val (.int z90), .val (.int z91), .val (.int z92), .val (.ref b93), .val (.ref b95), .unset, .unset] [(.int (p6 &&& (3 : Int32)))])) (fun t k => XS.iand X97.here hx rfl (hb hby at_204) rfl k) ?_
            refine own_go (B := T97.setTop (mkF m 207 #[.val (.long p1), .second, .val (.long p2), .second, .val (.long p3), .second, .val (.int p4), .val (.int p5), .val (.int p6), .val (.int cd), .val (.int rs), .val (.int mx), .val (.int my), .val (.int lo), .val (.int hi), .val (.int fz), .val (.int ft), .val (.int kk), .val (.int z88), .val (.int lo2), .val (.int hi2), .val (.int z90), .val (.int z91), .val (.int z92), .val (.ref b93), .val (.ref b95), .val (.int (p6 &&& (3 : Int32))), .unset] [])) (fun t k => XS.istore X97.here hx rfl (hb hby at_205) rfl (l' := #[.val (.long p1), .second, .val (.long p2), .second, .val (.long p3), .second, .val (.int p4), .val (.int p5), .val (.int p6), .val (.int cd), .val (.int rs), .val (.int mx), .val (.int my), .val (.int lo), .val (.int hi), .val (.int fz), .val (.int ft), .val (.int kk), .val (.int z88), .val (.int lo2), .val (.int hi2), .val (.int z90), .val (.int z91), .val (.int z92), .val (.ref b93), .val (.ref b95), .val (.int (p6 &&& (3 : Int32))), .unset]) rfl k) ?_
            obtain ⟨mm, hmm⟩ : ∃ z, z = (p6 &&& (3 : Int32)) := ⟨_, rfl⟩
            rw [← hmm]
            refine own_go (B := T97.setTop (mkF m 209 #[.val (.long p1), .second, .val (.long p2), .second, .val (.long p3), .second, .val (.int p4), .val (.int p5), .val (.int p6), .val (.int cd), .val (.int rs), .val (.int mx), .val (.int my), .val (.int lo), .val (.int hi), .val (.int fz), .val (.int ft), .val (.int kk), .val (.int z88), .val (.int lo2), .val (.int hi2), .val (.int z90), .val (.int z91), .val (.int z92), .val (.ref b93), .val (.ref b95), .val (.int mm), .unset] [(.int mm)])) (fun t k => XS.iload X97.here hx rfl (hb hby at_207) rfl k) ?_
            refine own_go (B := T97.setTop (mkF m 210 #[.val (.long p1), .second, .val (.long p2), .second, .val (.long p3), .second, .val (.int p4), .val (.int p5), .val (.int p6), .val (.int cd), .val (.int rs), .val (.int mx), .val (.int my), .val (.int lo), .val (.int hi), .val (.int fz), .val (.int ft), .val (.int kk), .val (.int z88), .val (.int lo2), .val (.int hi2), .val (.int z90), .val (.int z91), .val (.int z92), .val (.ref b93), .val (.ref b95), .val (.int mm), .unset] [(.int (1 : Int32)), (.int mm)])) (fun t k => XS.iconst X97.here hx rfl (hb hby at_209) k) ?_
            by_cases hc210_98 : mm = (1 : Int32)
            · refine own_go (B := T97.setTop (mkF m 213 #[.val (.long p1), .second, .val (.long p2), .second, .val (.long p3), .second, .val (.int p4), .val (.int p5), .val (.int p6), .val (.int cd), .val (.int rs), .val (.int mx), .val (.int my), .val (.int lo), .val (.int hi), .val (.int fz), .val (.int ft), .val (.int kk), .val (.int z88), .val (.int lo2), .val (.int hi2), .val (.int z90), .val (.int z91), .val (.int z92), .val (.ref b93), .val (.ref b95), .val (.int mm), .unset] [])) (fun t k => XS.icmpNo X97.here hx rfl (hb hby at_210) rfl (teq hc210_98).2 k) ?_
              refine own_go (B := T97.setTop (mkF m 215 #[.val (.long p1), .second, .val (.long p2), .second, .val (.long p3), .second, .val (.int p4), .val (.int p5), .val (.int p6), .val (.int cd), .val (.int rs), .val (.int mx), .val (.int my), .val (.int lo), .val (.int hi), .val (.int fz), .val (.int ft), .val (.int kk), .val (.int z88), .val (.int lo2), .val (.int hi2), .val (.int z90), .val (.int z91), .val (.int z92), .val (.ref b93), .val (.ref b95), .val (.int mm), .unset] [(.ref b93)])) (fun t k => XS.aload X97.here hx rfl (hb hby at_213) rfl rfl k) ?_
              refine own_go (B := T97.setTop (mkF m 217 #[.val (.long p1), .second, .val (.long p2), .second, .val (.long p3), .second, .val (.int p4), .val (.int p5), .val (.int p6), .val (.int cd), .val (.int rs), .val (.int mx), .val (.int my), .val (.int lo), .val (.int hi), .val (.int fz), .val (.int ft), .val (.int kk), .val (.int z88), .val (.int lo2), .val (.int hi2), .val (.int z90), .val (.int z91), .val (.int z92), .val (.ref b93), .val (.ref b95), .val (.int mm), .unset] [(.ref b93), (.ref b93)])) (fun t k => XS.aload X97.here hx rfl (hb hby at_215) rfl rfl k) ?_
              have f100 := ((f96.ext E95).keep Kc97)
              obtain ⟨cq99, kq99, q99a, q99b, q99c⟩ := isOf hZ (rfl : T97.heap = T97.heap) f100
              obtain ⟨_, _, ⟨T99, L99, k99, n99⟩, -, X99, ⟨Lc99, hQ99, l99, y99, z99⟩, st99⟩ := X97.virtualBack hx (y := (⟨"com/example/helm_of_panes/helmofpanes/input/AbsoluteAxis", "equals", "(Ljava/lang/Object;)Z"⟩ : MethodName)) (z := (⟨"com/example/helm_of_panes/helmofpanes/input/AbsoluteAxis", "equals", "(Ljava/lang/Object;)Z"⟩ : MethodName)) hown (mvT hZ (hw _ (List.mem_of_getElem? (i := 35) rfl))) (mvT hZ (hw _ (List.mem_of_getElem? (i := 36) rfl))) (notFace_of_selects (args := #[]) (mvT hZ (hw _ (List.mem_of_getElem? (i := 38) rfl)))) (mvT hZ (hw _ (List.mem_of_getElem? (i := 38) rfl))) (mvT hZ (hw _ (List.mem_of_getElem? (i := 37) rfl))) (by decide) (backOf (W := 0) (own_rm_eqS l Z a0 hw [] b93 T97.heap n0 O97) hZ (hw _ (List.mem_of_getElem? (i := 39) rfl)) (hw _ (List.mem_of_getElem? (i := 9) rfl)) (by decide) (by decide)) q99a q99c (g := (mkF m 217 #[.val (.long p1), .second, .val (.long p2), .second, .val (.long p3), .second, .val (.int p4), .val (.int p5), .val (.int p6), .val (.int cd), .val (.int rs), .val (.int mx), .val (.int my), .val (.int lo), .val (.int hi), .val (.int fz), .val (.int ft), .val (.int kk), .val (.int z88), .val (.int lo2), .val (.int hi2), .val (.int z90), .val (.int z91), .val (.int z92), .val (.ref b93), .val (.ref b95), .val (.int mm), .unset] [(.ref b93), (.ref b93)])) rfl (by rw [hml]; rfl) (Steps.refl _) (argsL := [(.ref b93)]) (rest := []) (lenOf own_pd_4 rfl) rfl (by show 2 * 0 + _ ≤ _; exact Nat.le_of_eq rfl) (hb hby at_217) (fun _ _ => ⟨rfl, (rfl : T97.heap = T97.heap), (by decide : 2 + 0 ≤ _), (by decide : 12 + 0 ≤ _)⟩)
              dsimp only [Pt.U, Pt.locs, Pt.cells, Pt.slots] at X99 l99 y99 z99 st99 hQ99
              subst l99 y99 z99
              obtain ⟨rfl, N99q, eh99⟩ := hQ99
              have N99 := Fr.app N97 N99q
              refine own_go (B := T99.setTop (mkF m 220 #[.val (.long p1), .second, .val (.long p2), .second, .val (.long p3), .second, .val (.int p4), .val (.int p5), .val (.int p6), .val (.int cd), .val (.int rs), .val (.int mx), .val (.int my), .val (.int lo), .val (.int hi), .val (.int fz), .val (.int ft), .val (.int kk), .val (.int z88), .val (.int lo2), .val (.int hi2), .val (.int z90), .val (.int z91), .val (.int z92), .val (.ref b93), .val (.ref b95), .val (.int mm), .unset] [(.int (1 : Int32))])) (fun t k => st99.trans k) ?_
              obtain ⟨fs, hr, hrun, hended, hW, hsame⟩ := X99.leave (v := some (.int (1 : Int32))) (fun h => by rw [Bd.returns] at h; cases h)
              refine ⟨_, _, retN X99 hx (t := .boolean) Bd.returns (by simp) (hb hby at_220) hr, hK _ _ ⟨hrun, hended, _, _, rfl, ?_, ⟨_, rfl⟩, hW, hsame.mono (by decide) (by decide)⟩⟩
              show own_Q_law Z p1 p2 p3 p4 p5 p6 w_cache cl h0 n0 _ T99.heap _
              rw [eh99]
              exact ⟨rfl, N99⟩
            · refine own_go (B := T97.setTop (mkF m 221 #[.val (.long p1), .second, .val (.long p2), .second, .val (.long p3), .second, .val (.int p4), .val (.int p5), .val (.int p6), .val (.int cd), .val (.int rs), .val (.int mx), .val (.int my), .val (.int lo), .val (.int hi), .val (.int fz), .val (.int ft), .val (.int kk), .val (.int z88), .val (.int lo2), .val (.int hi2), .val (.int z90), .val (.int z91), .val (.int z92), .val (.ref b93), .val (.ref b95), .val (.int mm), .unset] [])) (fun t k => XS.icmpYes X97.here hx rfl (pc0 := 210) (pc' := 221) rfl (hb hby at_210) rfl (feq hc210_98).2 (by decide) (by decide) k) ?_
              refine own_go (B := T97.setTop (mkF m 223 #[.val (.long p1), .second, .val (.long p2), .second, .val (.long p3), .second, .val (.int p4), .val (.int p5), .val (.int p6), .val (.int cd), .val (.int rs), .val (.int mx), .val (.int my), .val (.int lo), .val (.int hi), .val (.int fz), .val (.int ft), .val (.int kk), .val (.int z88), .val (.int lo2), .val (.int hi2), .val (.int z90), .val (.int z91), .val (.int z92), .val (.ref b93), .val (.ref b95), .val (.int mm), .unset] [(.int mm)])) (fun t k => XS.iload X97.here hx rfl (hb hby at_221) rfl k) ?_
              refine own_go (B := T97.setTop (mkF m 224 #[.val (.long p1), .second, .val (.long p2), .second, .val (.long p3), .second, .val (.int p4), .val (.int p5), .val (.int p6), .val (.int cd), .val (.int rs), .val (.int mx), .val (.int my), .val (.int lo), .val (.int hi), .val (.int fz), .val (.int ft), .val (.int kk), .val (.int z88), .val (.int lo2), .val (.int hi2), .val (.int z90), .val (.int z91), .val (.int z92), .val (.ref b93), .val (.ref b95), .val (.int mm), .unset] [(.int (2 : Int32)), (.int mm)])) (fun t k => XS.iconst X97.here hx rfl (hb hby at_223) k) ?_
              by_cases hc224_102 : mm = (2 : Int32)
              · refine own_go (B := T97.setTop (mkF m 227 #[.val (.long p1), .second, .val (.long p2), .second, .val (.long p3), .second, .val (.int p4), .val (.int p5), .val (.int p6), .val (.int cd), .val (.int rs), .val (.int mx), .val (.int my), .val (.int lo), .val (.int hi), .val (.int fz), .val (.int ft), .val (.int kk), .val (.int z88), .val (.int lo2), .val (.int hi2), .val (.int z90), .val (.int z91), .val (.int z92), .val (.ref b93), .val (.ref b95), .val (.int mm), .unset] [])) (fun t k => XS.icmpNo X97.here hx rfl (hb hby at_224) rfl (teq hc224_102).2 k) ?_
                refine own_go (B := T97.setTop (mkF m 229 #[.val (.long p1), .second, .val (.long p2), .second, .val (.long p3), .second, .val (.int p4), .val (.int p5), .val (.int p6), .val (.int cd), .val (.int rs), .val (.int mx), .val (.int my), .val (.int lo), .val (.int hi), .val (.int fz), .val (.int ft), .val (.int kk), .val (.int z88), .val (.int lo2), .val (.int hi2), .val (.int z90), .val (.int z91), .val (.int z92), .val (.ref b93), .val (.ref b95), .val (.int mm), .unset] [(.ref b93)])) (fun t k => XS.aload X97.here hx rfl (hb hby at_227) rfl rfl k) ?_
                refine own_go (B := T97.setTop (mkF m 230 #[.val (.long p1), .second, .val (.long p2), .second, .val (.long p3), .second, .val (.int p4), .val (.int p5), .val (.int p6), .val (.int cd), .val (.int rs), .val (.int mx), .val (.int my), .val (.int lo), .val (.int hi), .val (.int fz), .val (.int ft), .val (.int kk), .val (.int z88), .val (.int lo2), .val (.int hi2), .val (.int z90), .val (.int z91), .val (.int z92), .val (.ref b93), .val (.ref b95), .val (.int mm), .unset] [.null, (.ref b93)])) (fun t k => XS.aconstNull X97.here hx rfl (hb hby at_229) k) ?_
                have f104 := ((f96.ext E95).keep Kc97)
                obtain ⟨cq103, kq103, q103a, q103b, q103c⟩ := isOf hZ (rfl : T97.heap = T97.heap) f104
                obtain ⟨_, _, ⟨T103, L103, k103, n103⟩, -, X103, ⟨Lc103, hQ103, l103, y103, z103⟩, st103⟩ := X97.virtualBack hx (y := (⟨"com/example/helm_of_panes/helmofpanes/input/AbsoluteAxis", "equals", "(Ljava/lang/Object;)Z"⟩ : MethodName)) (z := (⟨"com/example/helm_of_panes/helmofpanes/input/AbsoluteAxis", "equals", "(Ljava/lang/Object;)Z"⟩ : MethodName)) hown (mvT hZ (hw _ (List.mem_of_getElem? (i := 35) rfl))) (mvT hZ (hw _ (List.mem_of_getElem? (i := 36) rfl))) (notFace_of_selects (args := #[]) (mvT hZ (hw _ (List.mem_of_getElem? (i := 38) rfl)))) (mvT hZ (hw _ (List.mem_of_getElem? (i := 38) rfl))) (mvT hZ (hw _ (List.mem_of_getElem? (i := 37) rfl))) (by decide) (backOf (W := 0) (own_rm_eqN l Z a0 hw [] b93 T97.heap n0 O97) hZ (hw _ (List.mem_of_getElem? (i := 39) rfl)) (hw _ (List.mem_of_getElem? (i := 9) rfl)) (by decide) (by decide)) q103a q103c (g := (mkF m 230 #[.val (.long p1), .second, .val (.long p2), .second, .val (.long p3), .second, .val (.int p4), .val (.int p5), .val (.int p6), .val (.int cd), .val (.int rs), .val (.int mx), .val (.int my), .val (.int lo), .val (.int hi), .val (.int fz), .val (.int ft), .val (.int kk), .val (.int z88), .val (.int lo2), .val (.int hi2), .val (.int z90), .val (.int z91), .val (.int z92), .val (.ref b93), .val (.ref b95), .val (.int mm), .unset] [.null, (.ref b93)])) rfl (by rw [hml]; rfl) (Steps.refl _) (argsL := [.null]) (rest := []) (lenOf own_pd_4 rfl) rfl (by show 2 * 0 + _ ≤ _; exact Nat.le_of_eq rfl) (hb hby at_230) (fun _ _ => ⟨rfl, (rfl : T97.heap = T97.heap), (by decide : 2 + 0 ≤ _), (by decide : 12 + 0 ≤ _)⟩)
                dsimp only [Pt.U, Pt.locs, Pt.cells, Pt.slots] at X103 l103 y103 z103 st103 hQ103
                subst l103 y103 z103
                obtain ⟨rfl, N103q, eh103⟩ := hQ103
                have N103 := Fr.app N97 N103q
                refine own_go (B := T103.setTop (mkF m 233 #[.val (.long p1), .second, .val (.long p2), .second, .val (.long p3), .second, .val (.int p4), .val (.int p5), .val (.int p6), .val (.int cd), .val (.int rs), .val (.int mx), .val (.int my), .val (.int lo), .val (.int hi), .val (.int fz), .val (.int ft), .val (.int kk), .val (.int z88), .val (.int lo2), .val (.int hi2), .val (.int z90), .val (.int z91), .val (.int z92), .val (.ref b93), .val (.ref b95), .val (.int mm), .unset] [(.int (0 : Int32))])) (fun t k => st103.trans k) ?_
                refine own_go (B := T103.setTop (mkF m 236 #[.val (.long p1), .second, .val (.long p2), .second, .val (.long p3), .second, .val (.int p4), .val (.int p5), .val (.int p6), .val (.int cd), .val (.int rs), .val (.int mx), .val (.int my), .val (.int lo), .val (.int hi), .val (.int fz), .val (.int ft), .val (.int kk), .val (.int z88), .val (.int lo2), .val (.int hi2), .val (.int z90), .val (.int z91), .val (.int z92), .val (.ref b93), .val (.ref b95), .val (.int mm), .unset] [])) (fun t k => XS.ifNo X103.here hx rfl (hb hby at_233) rfl ((if0 _ _).trans (teq (by decide : (0 : Int32) = (0 : Int32))).2) k) ?_
                refine own_go (B := T103.setTop (mkF m 237 #[.val (.long p1), .second, .val (.long p2), .second, .val (.long p3), .second, .val (.int p4), .val (.int p5), .val (.int p6), .val (.int cd), .val (.int rs), .val (.int mx), .val (.int my), .val (.int lo), .val (.int hi), .val (.int fz), .val (.int ft), .val (.int kk), .val (.int z88), .val (.int lo2), .val (.int hi2), .val (.int z90), .val (.int z91), .val (.int z92), .val (.ref b93), .val (.ref b95), .val (.int mm), .unset] [(.int (1 : Int32))])) (fun t k => XS.iconst X103.here hx rfl (hb hby at_236) k) ?_
                refine own_go (B := T103.setTop (mkF m 241 #[.val (.long p1), .second, .val (.long p2), .second, .val (.long p3), .second, .val (.int p4), .val (.int p5), .val (.int p6), .val (.int cd), .val (.int rs), .val (.int mx), .val (.int my), .val (.int lo), .val (.int hi), .val (.int fz), .val (.int ft), .val (.int kk), .val (.int z88), .val (.int lo2), .val (.int hi2), .val (.int z90), .val (.int z91), .val (.int z92), .val (.ref b93), .val (.ref b95), .val (.int mm), .unset] [(.int (1 : Int32))])) (fun t k => XS.goto X103.here hx rfl (pc0 := 237) (pc' := 241) rfl (hb hby at_237) (by decide) (by decide) k) ?_
                obtain ⟨fs, hr, hrun, hended, hW, hsame⟩ := X103.leave (v := some (.int (1 : Int32))) (fun h => by rw [Bd.returns] at h; cases h)
                refine ⟨_, _, retN X103 hx (t := .boolean) Bd.returns (by simp) (hb hby at_241) hr, hK _ _ ⟨hrun, hended, _, _, rfl, ?_, ⟨_, rfl⟩, hW, hsame.mono (by decide) (by decide)⟩⟩
                show own_Q_law Z p1 p2 p3 p4 p5 p6 w_cache cl h0 n0 _ T103.heap _
                rw [eh103]
                exact ⟨rfl, N103⟩
              · refine own_go (B := T97.setTop (mkF m 242 #[.val (.long p1), .second, .val (.long p2), .second, .val (.long p3), .second, .val (.int p4), .val (.int p5), .val (.int p6), .val (.int cd), .val (.int rs), .val (.int mx), .val (.int my), .val (.int lo), .val (.int hi), .val (.int fz), .val (.int ft), .val (.int kk), .val (.int z88), .val (.int lo2), .val (.int hi2), .val (.int z90), .val (.int z91), .val (.int z92), .val (.ref b93), .val (.ref b95), .val (.int mm), .unset] [])) (fun t k => XS.icmpYes X97.here hx rfl (pc0 := 224) (pc' := 242) rfl (hb hby at_224) rfl (feq hc224_102).2 (by decide) (by decide) k) ?_
                refine own_go (B := T97.setTop (mkF m 244 #[.val (.long p1), .second, .val (.long p2), .second, .val (.long p3), .second, .val (.int p4), .val (.int p5), .val (.int p6), .val (.int cd), .val (.int rs), .val (.int mx), .val (.int my), .val (.int lo), .val (.int hi), .val (.int fz), .val (.int ft), .val (.int kk), .val (.int z88), .val (.int lo2), .val (.int hi2), .val (.int z90), .val (.int z91), .val (.int z92), .val (.ref b93), .val (.ref b95), .val (.int mm), .unset] [(.int mm)])) (fun t k => XS.iload X97.here hx rfl (hb hby at_242) rfl k) ?_
                refine own_go (B := T97.setTop (mkF m 245 #[.val (.long p1), .second, .val (.long p2), .second, .val (.long p3), .second, .val (.int p4), .val (.int p5), .val (.int p6), .val (.int cd), .val (.int rs), .val (.int mx), .val (.int my), .val (.int lo), .val (.int hi), .val (.int fz), .val (.int ft), .val (.int kk), .val (.int z88), .val (.int lo2), .val (.int hi2), .val (.int z90), .val (.int z91), .val (.int z92), .val (.ref b93), .val (.ref b95), .val (.int mm), .unset] [(.int (3 : Int32)), (.int mm)])) (fun t k => XS.iconst X97.here hx rfl (hb hby at_244) k) ?_
                by_cases hc245_107 : mm = (3 : Int32)
                · refine own_go (B := T97.setTop (mkF m 248 #[.val (.long p1), .second, .val (.long p2), .second, .val (.long p3), .second, .val (.int p4), .val (.int p5), .val (.int p6), .val (.int cd), .val (.int rs), .val (.int mx), .val (.int my), .val (.int lo), .val (.int hi), .val (.int fz), .val (.int ft), .val (.int kk), .val (.int z88), .val (.int lo2), .val (.int hi2), .val (.int z90), .val (.int z91), .val (.int z92), .val (.ref b93), .val (.ref b95), .val (.int mm), .unset] [])) (fun t k => XS.icmpNo X97.here hx rfl (hb hby at_245) rfl (teq hc245_107).2 k) ?_
                  refine own_go (B := T97.setTop (mkF m 250 #[.val (.long p1), .second, .val (.long p2), .second, .val (.long p3), .second, .val (.int p4), .val (.int p5), .val (.int p6), .val (.int cd), .val (.int rs), .val (.int mx), .val (.int my), .val (.int lo), .val (.int hi), .val (.int fz), .val (.int ft), .val (.int kk), .val (.int z88), .val (.int lo2), .val (.int hi2), .val (.int z90), .val (.int z91), .val (.int z92), .val (.ref b93), .val (.ref b95), .val (.int mm), .unset] [(.ref b93)])) (fun t k => XS.aload X97.here hx rfl (hb hby at_248) rfl rfl k) ?_
                  refine own_go (B := T97.setTop (mkF m 252 #[.val (.long p1), .second, .val (.long p2), .second, .val (.long p3), .second, .val (.int p4), .val (.int p5), .val (.int p6), .val (.int cd), .val (.int rs), .val (.int mx), .val (.int my), .val (.int lo), .val (.int hi), .val (.int fz), .val (.int ft), .val (.int kk), .val (.int z88), .val (.int lo2), .val (.int hi2), .val (.int z90), .val (.int z91), .val (.int z92), .val (.ref b93), .val (.ref b95), .val (.int mm), .unset] [(.int cd), (.ref b93)])) (fun t k => XS.iload X97.here hx rfl (hb hby at_250) rfl k) ?_
                  obtain ⟨_, _, ⟨T108, L108, k108, n108⟩, -, X108, ⟨Lc108, hQ108, l108, y108, z108⟩, st108⟩ := Jvm.LawKit.callS X97 hx (y := (⟨"java/lang/Integer", "valueOf", "(I)Ljava/lang/Integer;"⟩ : MethodName)) hown (mvT hZ (hw _ (List.mem_of_getElem? (i := 28) rfl))) (mvT hZ (hw _ (List.mem_of_getElem? (i := 29) rfl))) (mvT hZ (hw _ (List.mem_of_getElem? (i := 30) rfl))) (mvT hZ (hw _ (List.mem_of_getElem? (i := 31) rfl))) (by decide) (backOf (W := 1) (own_rm_valueOf l Z a0 hw [] cd w_cache cl T97.heap n0 O97 Hc) hZ (hw _ (List.mem_of_getElem? (i := 31) rfl)) (hw _ (List.mem_of_getElem? (i := 30) rfl)) (by decide) (by decide)) (g := (mkF m 252 #[.val (.long p1), .second, .val (.long p2), .second, .val (.long p3), .second, .val (.int p4), .val (.int p5), .val (.int p6), .val (.int cd), .val (.int rs), .val (.int mx), .val (.int my), .val (.int lo), .val (.int hi), .val (.int fz), .val (.int ft), .val (.int kk), .val (.int z88), .val (.int lo2), .val (.int hi2), .val (.int z90), .val (.int z91), .val (.int z92), .val (.ref b93), .val (.ref b95), .val (.int mm), .unset] [(.int cd), (.ref b93)])) rfl (by rw [hml]; rfl) (argsL := [(.int cd)]) (rest := [(.ref b93)]) (lenOf own_pd_5 rfl) rfl (by show 2 * 0 + _ ≤ _; exact Nat.le_of_eq rfl) (hb hby at_252) (fun _ _ => ⟨rfl, (rfl : T97.heap = T97.heap), (by decide : 2 + 1 ≤ _), (by decide : 12 + 1 ≤ _)⟩)
                  dsimp only [Pt.U, Pt.locs, Pt.cells, Pt.slots] at X108 l108 y108 z108 st108 hQ108
                  subst l108 y108 z108
                  obtain ⟨r108, rfl, N108q, Kc108, Ei108⟩ := hQ108
                  have E108 := Kc108
                  have O108 := O97.ext E108
                  have N108 := Fr.app N97 N108q
                  refine own_go (B := T108.setTop (mkF m 255 #[.val (.long p1), .second, .val (.long p2), .second, .val (.long p3), .second, .val (.int p4), .val (.int p5), .val (.int p6), .val (.int cd), .val (.int rs), .val (.int mx), .val (.int my), .val (.int lo), .val (.int hi), .val (.int fz), .val (.int ft), .val (.int kk), .val (.int z88), .val (.int lo2), .val (.int hi2), .val (.int z90), .val (.int z91), .val (.int z92), .val (.ref b93), .val (.ref b95), .val (.int mm), .unset] [(.ref r108), (.ref b93)])) (fun t k => st108 _ k) ?_
                  have f109 := (((f96.ext E95).keep Kc97).ext E108)
                  obtain ⟨cq110, kq110, q110a, q110b, q110c⟩ := isOf hZ (rfl : T108.heap = T108.heap) f109
                  obtain ⟨_, _, ⟨T110, L110, k110, n110⟩, -, X110, ⟨Lc110, hQ110, l110, y110, z110⟩, st110⟩ := X108.virtualBack hx (y := (⟨"com/example/helm_of_panes/helmofpanes/input/AbsoluteAxis", "equals", "(Ljava/lang/Object;)Z"⟩ : MethodName)) (z := (⟨"com/example/helm_of_panes/helmofpanes/input/AbsoluteAxis", "equals", "(Ljava/lang/Object;)Z"⟩ : MethodName)) hown (mvT hZ (hw _ (List.mem_of_getElem? (i := 35) rfl))) (mvT hZ (hw _ (List.mem_of_getElem? (i := 36) rfl))) (notFace_of_selects (args := #[]) (mvT hZ (hw _ (List.mem_of_getElem? (i := 38) rfl)))) (mvT hZ (hw _ (List.mem_of_getElem? (i := 38) rfl))) (mvT hZ (hw _ (List.mem_of_getElem? (i := 37) rfl))) (by decide) (backOf (W := 0) (own_rm_eqI l Z a0 hw [] b93 r108 T108.heap n0 O108 (ne_exa f109 Ei108 (by decide)) Ei108 (own_noInt Ei108 (hw _ (List.mem_of_getElem? (i := 41) rfl)) (hw _ (List.mem_of_getElem? (i := 42) rfl)) (hw _ (List.mem_of_getElem? (i := 43) rfl)) (hw _ (List.mem_of_getElem? (i := 8) rfl)) (by decide) (by decide) (by decide))) hZ (hw _ (List.mem_of_getElem? (i := 39) rfl)) (hw _ (List.mem_of_getElem? (i := 9) rfl)) (by decide) (by decide)) q110a q110c (g := (mkF m 255 #[.val (.long p1), .second, .val (.long p2), .second, .val (.long p3), .second, .val (.int p4), .val (.int p5), .val (.int p6), .val (.int cd), .val (.int rs), .val (.int mx), .val (.int my), .val (.int lo), .val (.int hi), .val (.int fz), .val (.int ft), .val (.int kk), .val (.int z88), .val (.int lo2), .val (.int hi2), .val (.int z90), .val (.int z91), .val (.int z92), .val (.ref b93), .val (.ref b95), .val (.int mm), .unset] [(.ref r108), (.ref b93)])) rfl (by rw [hml]; rfl) (Steps.refl _) (argsL := [(.ref r108)]) (rest := []) (lenOf own_pd_4 rfl) rfl (by show 2 * 0 + _ ≤ _; exact Nat.le_of_eq rfl) (hb hby at_255) (fun _ _ => ⟨rfl, (rfl : T108.heap = T108.heap), (by decide : 3 + 0 ≤ _), (by decide : 13 + 0 ≤ _)⟩)
                  dsimp only [Pt.U, Pt.locs, Pt.cells, Pt.slots] at X110 l110 y110 z110 st110 hQ110
                  subst l110 y110 z110
                  obtain ⟨rfl, N110q, eh110⟩ := hQ110
                  have N110 := Fr.app N108 N110q
                  refine own_go (B := T110.setTop (mkF m 258 #[.val (.long p1), .second, .val (.long p2), .second, .val (.long p3), .second, .val (.int p4), .val (.int p5), .val (.int p6), .val (.int cd), .val (.int rs), .val (.int mx), .val (.int my), .val (.int lo), .val (.int hi), .val (.int fz), .val (.int ft), .val (.int kk), .val (.int z88), .val (.int lo2), .val (.int hi2), .val (.int z90), .val (.int z91), .val (.int z92), .val (.ref b93), .val (.ref b95), .val (.int mm), .unset] [(.int (0 : Int32))])) (fun t k => st110.trans k) ?_
                  refine own_go (B := T110.setTop (mkF m 261 #[.val (.long p1), .second, .val (.long p2), .second, .val (.long p3), .second, .val (.int p4), .val (.int p5), .val (.int p6), .val (.int cd), .val (.int rs), .val (.int mx), .val (.int my), .val (.int lo), .val (.int hi), .val (.int fz), .val (.int ft), .val (.int kk), .val (.int z88), .val (.int lo2), .val (.int hi2), .val (.int z90), .val (.int z91), .val (.int z92), .val (.ref b93), .val (.ref b95), .val (.int mm), .unset] [])) (fun t k => XS.ifNo X110.here hx rfl (hb hby at_258) rfl ((if0 _ _).trans (teq (by decide : (0 : Int32) = (0 : Int32))).2) k) ?_
                  refine own_go (B := T110.setTop (mkF m 262 #[.val (.long p1), .second, .val (.long p2), .second, .val (.long p3), .second, .val (.int p4), .val (.int p5), .val (.int p6), .val (.int cd), .val (.int rs), .val (.int mx), .val (.int my), .val (.int lo), .val (.int hi), .val (.int fz), .val (.int ft), .val (.int kk), .val (.int z88), .val (.int lo2), .val (.int hi2), .val (.int z90), .val (.int z91), .val (.int z92), .val (.ref b93), .val (.ref b95), .val (.int mm), .unset] [(.int (1 : Int32))])) (fun t k => XS.iconst X110.here hx rfl (hb hby at_261) k) ?_
                  refine own_go (B := T110.setTop (mkF m 266 #[.val (.long p1), .second, .val (.long p2), .second, .val (.long p3), .second, .val (.int p4), .val (.int p5), .val (.int p6), .val (.int cd), .val (.int rs), .val (.int mx), .val (.int my), .val (.int lo), .val (.int hi), .val (.int fz), .val (.int ft), .val (.int kk), .val (.int z88), .val (.int lo2), .val (.int hi2), .val (.int z90), .val (.int z91), .val (.int z92), .val (.ref b93), .val (.ref b95), .val (.int mm), .unset] [(.int (1 : Int32))])) (fun t k => XS.goto X110.here hx rfl (pc0 := 262) (pc' := 266) rfl (hb hby at_262) (by decide) (by decide) k) ?_
                  obtain ⟨fs, hr, hrun, hended, hW, hsame⟩ := X110.leave (v := some (.int (1 : Int32))) (fun h => by rw [Bd.returns] at h; cases h)
                  refine ⟨_, _, retN X110 hx (t := .boolean) Bd.returns (by simp) (hb hby at_266) hr, hK _ _ ⟨hrun, hended, _, _, rfl, ?_, ⟨_, rfl⟩, hW, hsame.mono (by decide) (by decide)⟩⟩
                  show own_Q_law Z p1 p2 p3 p4 p5 p6 w_cache cl h0 n0 _ T110.heap _
                  rw [eh110]
                  exact ⟨rfl, N110⟩
                · refine own_go (B := T97.setTop (mkF m 267 #[.val (.long p1), .second, .val (.long p2), .second, .val (.long p3), .second, .val (.int p4), .val (.int p5), .val (.int p6), .val (.int cd), .val (.int rs), .val (.int mx), .val (.int my), .val (.int lo), .val (.int hi), .val (.int fz), .val (.int ft), .val (.int kk), .val (.int z88), .val (.int lo2), .val (.int hi2), .val (.int z90), .val (.int z91), .val (.int z92), .val (.ref b93), .val (.ref b95), .val (.int mm), .unset] [])) (fun t k => XS.icmpYes X97.here hx rfl (pc0 := 245) (pc' := 267) rfl (hb hby at_245) rfl (feq hc245_107).2 (by decide) (by decide) k) ?_
                  refine own_go (B := T97.setTop (mkF m 269 #[.val (.long p1), .second, .val (.long p2), .second, .val (.long p3), .second, .val (.int p4), .val (.int p5), .val (.int p6), .val (.int cd), .val (.int rs), .val (.int mx), .val (.int my), .val (.int lo), .val (.int hi), .val (.int fz), .val (.int ft), .val (.int kk), .val (.int z88), .val (.int lo2), .val (.int hi2), .val (.int z90), .val (.int z91), .val (.int z92), .val (.ref b93), .val (.ref b95), .val (.int mm), .unset] [(.int cd)])) (fun t k => XS.iload X97.here hx rfl (hb hby at_267) rfl k) ?_
                  refine own_go (B := T97.setTop (mkF m 271 #[.val (.long p1), .second, .val (.long p2), .second, .val (.long p3), .second, .val (.int p4), .val (.int p5), .val (.int p6), .val (.int cd), .val (.int rs), .val (.int mx), .val (.int my), .val (.int lo), .val (.int hi), .val (.int fz), .val (.int ft), .val (.int kk), .val (.int z88), .val (.int lo2), .val (.int hi2), .val (.int z90), .val (.int z91), .val (.int z92), .val (.ref b93), .val (.ref b95), .val (.int mm), .unset] [(.int z88), (.int cd)])) (fun t k => XS.iload X97.here hx rfl (hb hby at_269) rfl k) ?_
                  by_cases hc271_113 : cd = z88
                  · refine own_go (B := T97.setTop (mkF m 274 #[.val (.long p1), .second, .val (.long p2), .second, .val (.long p3), .second, .val (.int p4), .val (.int p5), .val (.int p6), .val (.int cd), .val (.int rs), .val (.int mx), .val (.int my), .val (.int lo), .val (.int hi), .val (.int fz), .val (.int ft), .val (.int kk), .val (.int z88), .val (.int lo2), .val (.int hi2), .val (.int z90), .val (.int z91), .val (.int z92), .val (.ref b93), .val (.ref b95), .val (.int mm), .unset] [])) (fun t k => XS.icmpNo X97.here hx rfl (hb hby at_271) rfl (teq hc271_113).2 k) ?_
                    refine own_go (B := T97.setTop (mkF m 276 #[.val (.long p1), .second, .val (.long p2), .second, .val (.long p3), .second, .val (.int p4), .val (.int p5), .val (.int p6), .val (.int cd), .val (.int rs), .val (.int mx), .val (.int my), .val (.int lo), .val (.int hi), .val (.int fz), .val (.int ft), .val (.int kk), .val (.int z88), .val (.int lo2), .val (.int hi2), .val (.int z90), .val (.int z91), .val (.int z92), .val (.ref b93), .val (.ref b95), .val (.int mm), .unset] [(.int lo)])) (fun t k => XS.iload X97.here hx rfl (hb hby at_274) rfl k) ?_
                    refine own_go (B := T97.setTop (mkF m 278 #[.val (.long p1), .second, .val (.long p2), .second, .val (.long p3), .second, .val (.int p4), .val (.int p5), .val (.int p6), .val (.int cd), .val (.int rs), .val (.int mx), .val (.int my), .val (.int lo), .val (.int hi), .val (.int fz), .val (.int ft), .val (.int kk), .val (.int z88), .val (.int lo2), .val (.int hi2), .val (.int z90), .val (.int z91), .val (.int z92), .val (.ref b93), .val (.ref b95), .val (.int mm), .unset] [(.int lo2), (.int lo)])) (fun t k => XS.iload X97.here hx rfl (hb hby at_276) rfl k) ?_
                    by_cases hc278_114 : lo = lo2
                    · refine own_go (B := T97.setTop (mkF m 281 #[.val (.long p1), .second, .val (.long p2), .second, .val (.long p3), .second, .val (.int p4), .val (.int p5), .val (.int p6), .val (.int cd), .val (.int rs), .val (.int mx), .val (.int my), .val (.int lo), .val (.int hi), .val (.int fz), .val (.int ft), .val (.int kk), .val (.int z88), .val (.int lo2), .val (.int hi2), .val (.int z90), .val (.int z91), .val (.int z92), .val (.ref b93), .val (.ref b95), .val (.int mm), .unset] [])) (fun t k => XS.icmpNo X97.here hx rfl (hb hby at_278) rfl (teq hc278_114).2 k) ?_
                      refine own_go (B := T97.setTop (mkF m 283 #[.val (.long p1), .second, .val (.long p2), .second, .val (.long p3), .second, .val (.int p4), .val (.int p5), .val (.int p6), .val (.int cd), .val (.int rs), .val (.int mx), .val (.int my), .val (.int lo), .val (.int hi), .val (.int fz), .val (.int ft), .val (.int kk), .val (.int z88), .val (.int lo2), .val (.int hi2), .val (.int z90), .val (.int z91), .val (.int z92), .val (.ref b93), .val (.ref b95), .val (.int mm), .unset] [(.int hi)])) (fun t k => XS.iload X97.here hx rfl (hb hby at_281) rfl k) ?_
                      refine own_go (B := T97.setTop (mkF m 285 #[.val (.long p1), .second, .val (.long p2), .second, .val (.long p3), .second, .val (.int p4), .val (.int p5), .val (.int p6), .val (.int cd), .val (.int rs), .val (.int mx), .val (.int my), .val (.int lo), .val (.int hi), .val (.int fz), .val (.int ft), .val (.int kk), .val (.int z88), .val (.int lo2), .val (.int hi2), .val (.int z90), .val (.int z91), .val (.int z92), .val (.ref b93), .val (.ref b95), .val (.int mm), .unset] [(.int hi2), (.int hi)])) (fun t k => XS.iload X97.here hx rfl (hb hby at_283) rfl k) ?_
                      by_cases hc285_115 : hi = hi2
                      · refine own_go (B := T97.setTop (mkF m 288 #[.val (.long p1), .second, .val (.long p2), .second, .val (.long p3), .second, .val (.int p4), .val (.int p5), .val (.int p6), .val (.int cd), .val (.int rs), .val (.int mx), .val (.int my), .val (.int lo), .val (.int hi), .val (.int fz), .val (.int ft), .val (.int kk), .val (.int z88), .val (.int lo2), .val (.int hi2), .val (.int z90), .val (.int z91), .val (.int z92), .val (.ref b93), .val (.ref b95), .val (.int mm), .unset] [])) (fun t k => XS.icmpNo X97.here hx rfl (hb hby at_285) rfl (teq hc285_115).2 k) ?_
                        refine own_go (B := T97.setTop (mkF m 290 #[.val (.long p1), .second, .val (.long p2), .second, .val (.long p3), .second, .val (.int p4), .val (.int p5), .val (.int p6), .val (.int cd), .val (.int rs), .val (.int mx), .val (.int my), .val (.int lo), .val (.int hi), .val (.int fz), .val (.int ft), .val (.int kk), .val (.int z88), .val (.int lo2), .val (.int hi2), .val (.int z90), .val (.int z91), .val (.int z92), .val (.ref b93), .val (.ref b95), .val (.int mm), .unset] [(.int fz)])) (fun t k => XS.iload X97.here hx rfl (hb hby at_288) rfl k) ?_
                        refine own_go (B := T97.setTop (mkF m 292 #[.val (.long p1), .second, .val (.long p2), .second, .val (.long p3), .second, .val (.int p4), .val (.int p5), .val (.int p6), .val (.int cd), .val (.int rs), .val (.int mx), .val (.int my), .val (.int lo), .val (.int hi), .val (.int fz), .val (.int ft), .val (.int kk), .val (.int z88), .val (.int lo2), .val (.int hi2), .val (.int z90), .val (.int z91), .val (.int z92), .val (.ref b93), .val (.ref b95), .val (.int mm), .unset] [(.int z90), (.int fz)])) (fun t k => XS.iload X97.here hx rfl (hb hby at_290) rfl k) ?_
                        by_cases hc292_116 : fz = z90
                        · refine own_go (B := T97.setTop (mkF m 295 #[.val (.long p1), .second, .val (.long p2), .second, .val (.long p3), .second, .val (.int p4), .val (.int p5), .val (.int p6), .val (.int cd), .val (.int rs), .val (.int mx), .val (.int my), .val (.int lo), .val (.int hi), .val (.int fz), .val (.int ft), .val (.int kk), .val (.int z88), .val (.int lo2), .val (.int hi2), .val (.int z90), .val (.int z91), .val (.int z92), .val (.ref b93), .val (.ref b95), .val (.int mm), .unset] [])) (fun t k => XS.icmpNo X97.here hx rfl (hb hby at_292) rfl (teq hc292_116).2 k) ?_
                          refine own_go (B := T97.setTop (mkF m 297 #[.val (.long p1), .second, .val (.long p2), .second, .val (.long p3), .second, .val (.int p4), .val (.int p5), .val (.int p6), .val (.int cd), .val (.int rs), .val (.int mx), .val (.int my), .val (.int lo), .val (.int hi), .val (.int fz), .val (.int ft), .val (.int kk), .val (.int z88), .val (.int lo2), .val (.int hi2), .val (.int z90), .val (.int z91), .val (.int z92), .val (.ref b93), .val (.ref b95), .val (.int mm), .unset] [(.int ft)])) (fun t k => XS.iload X97.here hx rfl (hb hby at_295) rfl k) ?_
                          refine own_go (B := T97.setTop (mkF m 299 #[.val (.long p1), .second, .val (.long p2), .second, .val (.long p3), .second, .val (.int p4), .val (.int p5), .val (.int p6), .val (.int cd), .val (.int rs), .val (.int mx), .val (.int my), .val (.int lo), .val (.int hi), .val (.int fz), .val (.int ft), .val (.int kk), .val (.int z88), .val (.int lo2), .val (.int hi2), .val (.int z90), .val (.int z91), .val (.int z92), .val (.ref b93), .val (.ref b95), .val (.int mm), .unset] [(.int z91), (.int ft)])) (fun t k => XS.iload X97.here hx rfl (hb hby at_297) rfl k) ?_
                          by_cases hc299_117 : ft = z91
                          · refine own_go (B := T97.setTop (mkF m 302 #[.val (.long p1), .second, .val (.long p2), .second, .val (.long p3), .second, .val (.int p4), .val (.int p5), .val (.int p6), .val (.int cd), .val (.int rs), .val (.int mx), .val (.int my), .val (.int lo), .val (.int hi), .val (.int fz), .val (.int ft), .val (.int kk), .val (.int z88), .val (.int lo2), .val (.int hi2), .val (.int z90), .val (.int z91), .val (.int z92), .val (.ref b93), .val (.ref b95), .val (.int mm), .unset] [])) (fun t k => XS.icmpNo X97.here hx rfl (hb hby at_299) rfl (teq hc299_117).2 k) ?_
                            refine own_go (B := T97.setTop (mkF m 304 #[.val (.long p1), .second, .val (.long p2), .second, .val (.long p3), .second, .val (.int p4), .val (.int p5), .val (.int p6), .val (.int cd), .val (.int rs), .val (.int mx), .val (.int my), .val (.int lo), .val (.int hi), .val (.int fz), .val (.int ft), .val (.int kk), .val (.int z88), .val (.int lo2), .val (.int hi2), .val (.int z90), .val (.int z91), .val (.int z92), .val (.ref b93), .val (.ref b95), .val (.int mm), .unset] [(.int rs)])) (fun t k => XS.iload X97.here hx rfl (hb hby at_302) rfl k) ?_
                            refine own_go (B := T97.setTop (mkF m 306 #[.val (.long p1), .second, .val (.long p2), .second, .val (.long p3), .second, .val (.int p4), .val (.int p5), .val (.int p6), .val (.int cd), .val (.int rs), .val (.int mx), .val (.int my), .val (.int lo), .val (.int hi), .val (.int fz), .val (.int ft), .val (.int kk), .val (.int z88), .val (.int lo2), .val (.int hi2), .val (.int z90), .val (.int z91), .val (.int z92), .val (.ref b93), .val (.ref b95), .val (.int mm), .unset] [(.int z92), (.int rs)])) (fun t k => XS.iload X97.here hx rfl (hb hby at_304) rfl k) ?_
                            by_cases hc306_118 : rs = z92
                            · refine own_go (B := T97.setTop (mkF m 309 #[.val (.long p1), .second, .val (.long p2), .second, .val (.long p3), .second, .val (.int p4), .val (.int p5), .val (.int p6), .val (.int cd), .val (.int rs), .val (.int mx), .val (.int my), .val (.int lo), .val (.int hi), .val (.int fz), .val (.int ft), .val (.int kk), .val (.int z88), .val (.int lo2), .val (.int hi2), .val (.int z90), .val (.int z91), .val (.int z92), .val (.ref b93), .val (.ref b95), .val (.int mm), .unset] [])) (fun t k => XS.icmpNo X97.here hx rfl (hb hby at_306) rfl (teq hc306_118).2 k) ?_
                              refine own_go (B := T97.setTop (mkF m 310 #[.val (.long p1), .second, .val (.long p2), .second, .val (.long p3), .second, .val (.int p4), .val (.int p5), .val (.int p6), .val (.int cd), .val (.int rs), .val (.int mx), .val (.int my), .val (.int lo), .val (.int hi), .val (.int fz), .val (.int ft), .val (.int kk), .val (.int z88), .val (.int lo2), .val (.int hi2), .val (.int z90), .val (.int z91), .val (.int z92), .val (.ref b93), .val (.ref b95), .val (.int mm), .unset] [(.int (1 : Int32))])) (fun t k => XS.iconst X97.here hx rfl (hb hby at_309) k) ?_
                              refine own_go (B := T97.setTop (mkF m 314 #[.val (.long p1), .second, .val (.long p2), .second, .val (.long p3), .second, .val (.int p4), .val (.int p5), .val (.int p6), .val (.int cd), .val (.int rs), .val (.int mx), .val (.int my), .val (.int lo), .val (.int hi), .val (.int fz), .val (.int ft), .val (.int kk), .val (.int z88), .val (.int lo2), .val (.int hi2), .val (.int z90), .val (.int z91), .val (.int z92), .val (.ref b93), .val (.ref b95), .val (.int mm), .unset] [(.int (1 : Int32))])) (fun t k => XS.goto X97.here hx rfl (pc0 := 310) (pc' := 314) rfl (hb hby at_310) (by decide) (by decide) k) ?_
                              refine own_go (B := T97.setTop (mkF m 316 #[.val (.long p1), .second, .val (.long p2), .second, .val (.long p3), .second, .val (.int p4), .val (.int p5), .val (.int p6), .val (.int cd), .val (.int rs), .val (.int mx), .val (.int my), .val (.int lo), .val (.int hi), .val (.int fz), .val (.int ft), .val (.int kk), .val (.int z88), .val (.int lo2), .val (.int hi2), .val (.int z90), .val (.int z91), .val (.int z92), .val (.ref b93), .val (.ref b95), .val (.int mm), .val (.int (1 : Int32))] [])) (fun t k => XS.istore X97.here hx rfl (hb hby at_314) rfl (l' := #[.val (.long p1), .second, .val (.long p2), .second, .val (.long p3), .second, .val (.int p4), .val (.int p5), .val (.int p6), .val (.int cd), .val (.int rs), .val (.int mx), .val (.int my), .val (.int lo), .val (.int hi), .val (.int fz), .val (.int ft), .val (.int kk), .val (.int z88), .val (.int lo2), .val (.int hi2), .val (.int z90), .val (.int z91), .val (.int z92), .val (.ref b93), .val (.ref b95), .val (.int mm), .val (.int (1 : Int32))]) rfl k) ?_
                              refine own_go (B := T97.setTop (mkF m 318 #[.val (.long p1), .second, .val (.long p2), .second, .val (.long p3), .second, .val (.int p4), .val (.int p5), .val (.int p6), .val (.int cd), .val (.int rs), .val (.int mx), .val (.int my), .val (.int lo), .val (.int hi), .val (.int fz), .val (.int ft), .val (.int kk), .val (.int z88), .val (.int lo2), .val (.int hi2), .val (.int z90), .val (.int z91), .val (.int z92), .val (.ref b93), .val (.ref b95), .val (.int mm), .val (.int (1 : Int32))] [(.ref b93)])) (fun t k => XS.aload X97.here hx rfl (hb hby at_316) rfl rfl k) ?_
                              refine own_go (B := T97.setTop (mkF m 320 #[.val (.long p1), .second, .val (.long p2), .second, .val (.long p3), .second, .val (.int p4), .val (.int p5), .val (.int p6), .val (.int cd), .val (.int rs), .val (.int mx), .val (.int my), .val (.int lo), .val (.int hi), .val (.int fz), .val (.int ft), .val (.int kk), .val (.int z88), .val (.int lo2), .val (.int hi2), .val (.int z90), .val (.int z91), .val (.int z92), .val (.ref b93), .val (.ref b95), .val (.int mm), .val (.int (1 : Int32))] [(.ref b95), (.ref b93)])) (fun t k => XS.aload X97.here hx rfl (hb hby at_318) rfl rfl k) ?_
                              have f119 := ((Fn94_0.ext E95).keep Kc97 (ninS (Nat.ne_of_lt (Nat.lt_of_lt_of_le lt_b93_95 (Nat.le_of_eq g95.symm))) nin0))
                              have f120 := ((Fn94_1.ext E95).keep Kc97 (ninS (Nat.ne_of_lt (Nat.lt_of_lt_of_le lt_b93_95 (Nat.le_of_eq g95.symm))) nin0))
                              have f121 := ((Fn94_2.ext E95).keep Kc97 (ninS (Nat.ne_of_lt (Nat.lt_of_lt_of_le lt_b93_95 (Nat.le_of_eq g95.symm))) nin0))
                              have f122 := ((Fn94_3.ext E95).keep Kc97 (ninS (Nat.ne_of_lt (Nat.lt_of_lt_of_le lt_b93_95 (Nat.le_of_eq g95.symm))) nin0))
                              have f123 := ((Fn94_4.ext E95).keep Kc97 (ninS (Nat.ne_of_lt (Nat.lt_of_lt_of_le lt_b93_95 (Nat.le_of_eq g95.symm))) nin0))
                              have f124 := ((Fn94_5.ext E95).keep Kc97 (ninS (Nat.ne_of_lt (Nat.lt_of_lt_of_le lt_b93_95 (Nat.le_of_eq g95.symm))) nin0))
                              have f125 := (A95.keep Kc97)
                              have f127 := ((f96.ext E95).keep Kc97)
                              obtain ⟨cq126, kq126, q126a, q126b, q126c⟩ := isOf hZ (rfl : T97.heap = T97.heap) f127
                              obtain ⟨_, _, ⟨T126, L126, k126, n126⟩, -, X126, ⟨Lc126, hQ126, l126, y126, z126⟩, st126⟩ := X97.virtualBack hx (y := (⟨"com/example/helm_of_panes/helmofpanes/input/AbsoluteAxis", "equals", "(Ljava/lang/Object;)Z"⟩ : MethodName)) (z := (⟨"com/example/helm_of_panes/helmofpanes/input/AbsoluteAxis", "equals", "(Ljava/lang/Object;)Z"⟩ : MethodName)) hown (mvT hZ (hw _ (List.mem_of_getElem? (i := 35) rfl))) (mvT hZ (hw _ (List.mem_of_getElem? (i := 36) rfl))) (notFace_of_selects (args := #[]) (mvT hZ (hw _ (List.mem_of_getElem? (i := 38) rfl)))) (mvT hZ (hw _ (List.mem_of_getElem? (i := 38) rfl))) (mvT hZ (hw _ (List.mem_of_getElem? (i := 37) rfl))) (by decide) (backOf (W := 0) (own_rm_eqP l Z a0 hw [] b93 b95 cd lo hi fz ft rs z88 lo2 hi2 z90 z91 z92 (1 : Int32) T97.heap n0 O97 (Nat.ne_of_lt (Nat.lt_of_lt_of_le lt_b93_95 (Nat.le_of_eq g95.symm))) f125 f119 f120 f121 f122 f123 f124 Fn97_0 Fn97_1 Fn97_2 Fn97_3 Fn97_4 Fn97_5 (by simp [hc271_113, hc278_114, hc285_115, hc292_116, hc299_117, hc306_118])) hZ (hw _ (List.mem_of_getElem? (i := 39) rfl)) (hw _ (List.mem_of_getElem? (i := 9) rfl)) (by decide) (by decide)) q126a q126c (g := (mkF m 320 #[.val (.long p1), .second, .val (.long p2), .second, .val (.long p3), .second, .val (.int p4), .val (.int p5), .val (.int p6), .val (.int cd), .val (.int rs), .val (.int mx), .val (.int my), .val (.int lo), .val (.int hi), .val (.int fz), .val (.int ft), .val (.int kk), .val (.int z88), .val (.int lo2), .val (.int hi2), .val (.int z90), .val (.int z91), .val (.int z92), .val (.ref b93), .val (.ref b95), .val (.int mm), .val (.int (1 : Int32))] [(.ref b95), (.ref b93)])) rfl (by rw [hml]; rfl) (Steps.refl _) (argsL := [(.ref b95)]) (rest := []) (lenOf own_pd_4 rfl) rfl (by show 2 * 0 + _ ≤ _; exact Nat.le_of_eq rfl) (hb hby at_320) (fun _ _ => ⟨rfl, (rfl : T97.heap = T97.heap), (by decide : 2 + 0 ≤ _), (by decide : 12 + 0 ≤ _)⟩)
                              dsimp only [Pt.U, Pt.locs, Pt.cells, Pt.slots] at X126 l126 y126 z126 st126 hQ126
                              subst l126 y126 z126
                              obtain ⟨rfl, N126q, eh126⟩ := hQ126
                              have N126 := Fr.app N97 N126q
                              refine own_go (B := T126.setTop (mkF m 323 #[.val (.long p1), .second, .val (.long p2), .second, .val (.long p3), .second, .val (.int p4), .val (.int p5), .val (.int p6), .val (.int cd), .val (.int rs), .val (.int mx), .val (.int my), .val (.int lo), .val (.int hi), .val (.int fz), .val (.int ft), .val (.int kk), .val (.int z88), .val (.int lo2), .val (.int hi2), .val (.int z90), .val (.int z91), .val (.int z92), .val (.ref b93), .val (.ref b95), .val (.int mm), .val (.int (1 : Int32))] [(.int (1 : Int32))])) (fun t k => st126.trans k) ?_
                              refine own_go (B := T126.setTop (mkF m 325 #[.val (.long p1), .second, .val (.long p2), .second, .val (.long p3), .second, .val (.int p4), .val (.int p5), .val (.int p6), .val (.int cd), .val (.int rs), .val (.int mx), .val (.int my), .val (.int lo), .val (.int hi), .val (.int fz), .val (.int ft), .val (.int kk), .val (.int z88), .val (.int lo2), .val (.int hi2), .val (.int z90), .val (.int z91), .val (.int z92), .val (.ref b93), .val (.ref b95), .val (.int mm), .val (.int (1 : Int32))] [(.int (1 : Int32)), (.int (1 : Int32))])) (fun t k => XS.iload X126.here hx rfl (hb hby at_323) rfl k) ?_
                              refine own_go (B := T126.setTop (mkF m 328 #[.val (.long p1), .second, .val (.long p2), .second, .val (.long p3), .second, .val (.int p4), .val (.int p5), .val (.int p6), .val (.int cd), .val (.int rs), .val (.int mx), .val (.int my), .val (.int lo), .val (.int hi), .val (.int fz), .val (.int ft), .val (.int kk), .val (.int z88), .val (.int lo2), .val (.int hi2), .val (.int z90), .val (.int z91), .val (.int z92), .val (.ref b93), .val (.ref b95), .val (.int mm), .val (.int (1 : Int32))] [])) (fun t k => XS.icmpNo X126.here hx rfl (hb hby at_325) rfl (teq (by decide : (1 : Int32) = (1 : Int32))).2 k) ?_
                              refine own_go (B := T126.setTop (mkF m 330 #[.val (.long p1), .second, .val (.long p2), .second, .val (.long p3), .second, .val (.int p4), .val (.int p5), .val (.int p6), .val (.int cd), .val (.int rs), .val (.int mx), .val (.int my), .val (.int lo), .val (.int hi), .val (.int fz), .val (.int ft), .val (.int kk), .val (.int z88), .val (.int lo2), .val (.int hi2), .val (.int z90), .val (.int z91), .val (.int z92), .val (.ref b93), .val (.ref b95), .val (.int mm), .val (.int (1 : Int32))] [(.ref b95)])) (fun t k => XS.aload X126.here hx rfl (hb hby at_328) rfl rfl k) ?_
                              refine own_go (B := T126.setTop (mkF m 332 #[.val (.long p1), .second, .val (.long p2), .second, .val (.long p3), .second, .val (.int p4), .val (.int p5), .val (.int p6), .val (.int cd), .val (.int rs), .val (.int mx), .val (.int my), .val (.int lo), .val (.int hi), .val (.int fz), .val (.int ft), .val (.int kk), .val (.int z88), .val (.int lo2), .val (.int hi2), .val (.int z90), .val (.int z91), .val (.int z92), .val (.ref b93), .val (.ref b95), .val (.int mm), .val (.int (1 : Int32))] [(.ref b93), (.ref b95)])) (fun t k => XS.aload X126.here hx rfl (hb hby at_330) rfl rfl k) ?_
                              obtain ⟨cq129, kq129, q129a, q129b, q129c⟩ := isOf hZ eh126 f125
                              obtain ⟨_, _, ⟨T129, L129, k129, n129⟩, -, X129, ⟨Lc129, hQ129, l129, y129, z129⟩, st129⟩ := X126.virtualBack hx (y := (⟨"com/example/helm_of_panes/helmofpanes/input/AbsoluteAxis", "equals", "(Ljava/lang/Object;)Z"⟩ : MethodName)) (z := (⟨"com/example/helm_of_panes/helmofpanes/input/AbsoluteAxis", "equals", "(Ljava/lang/Object;)Z"⟩ : MethodName)) hown (mvT hZ (hw _ (List.mem_of_getElem? (i := 35) rfl))) (mvT hZ (hw _ (List.mem_of_getElem? (i := 36) rfl))) (notFace_of_selects (args := #[]) (mvT hZ (hw _ (List.mem_of_getElem? (i := 38) rfl)))) (mvT hZ (hw _ (List.mem_of_getElem? (i := 38) rfl))) (mvT hZ (hw _ (List.mem_of_getElem? (i := 37) rfl))) (by decide) (backOf (W := 0) (own_rm_eqP l Z a0 hw [] b95 b93 z88 lo2 hi2 z90 z91 z92 cd lo hi fz ft rs (1 : Int32) T97.heap n0 O97 (Ne.symm (Nat.ne_of_lt (Nat.lt_of_lt_of_le lt_b93_95 (Nat.le_of_eq g95.symm)))) f127 Fn97_0 Fn97_1 Fn97_2 Fn97_3 Fn97_4 Fn97_5 f119 f120 f121 f122 f123 f124 (by simp [(Eq.symm hc271_113), (Eq.symm hc278_114), (Eq.symm hc285_115), (Eq.symm hc292_116), (Eq.symm hc299_117), (Eq.symm hc306_118)])) hZ (hw _ (List.mem_of_getElem? (i := 39) rfl)) (hw _ (List.mem_of_getElem? (i := 9) rfl)) (by decide) (by decide)) q129a q129c (g := (mkF m 332 #[.val (.long p1), .second, .val (.long p2), .second, .val (.long p3), .second, .val (.int p4), .val (.int p5), .val (.int p6), .val (.int cd), .val (.int rs), .val (.int mx), .val (.int my), .val (.int lo), .val (.int hi), .val (.int fz), .val (.int ft), .val (.int kk), .val (.int z88), .val (.int lo2), .val (.int hi2), .val (.int z90), .val (.int z91), .val (.int z92), .val (.ref b93), .val (.ref b95), .val (.int mm), .val (.int (1 : Int32))] [(.ref b93), (.ref b95)])) rfl (by rw [hml]; rfl) (Steps.refl _) (argsL := [(.ref b93)]) (rest := []) (lenOf own_pd_4 rfl) rfl (by show 2 * 0 + _ ≤ _; exact Nat.le_of_eq rfl) (hb hby at_332) (fun _ _ => ⟨rfl, eh126, (by decide : 2 + 0 ≤ _), (by decide : 12 + 0 ≤ _)⟩)
                              dsimp only [Pt.U, Pt.locs, Pt.cells, Pt.slots] at X129 l129 y129 z129 st129 hQ129
                              subst l129 y129 z129
                              obtain ⟨rfl, N129q, eh129⟩ := hQ129
                              have N129 := Fr.app N126 N129q
                              refine own_go (B := T129.setTop (mkF m 335 #[.val (.long p1), .second, .val (.long p2), .second, .val (.long p3), .second, .val (.int p4), .val (.int p5), .val (.int p6), .val (.int cd), .val (.int rs), .val (.int mx), .val (.int my), .val (.int lo), .val (.int hi), .val (.int fz), .val (.int ft), .val (.int kk), .val (.int z88), .val (.int lo2), .val (.int hi2), .val (.int z90), .val (.int z91), .val (.int z92), .val (.ref b93), .val (.ref b95), .val (.int mm), .val (.int (1 : Int32))] [(.int (1 : Int32))])) (fun t k => st129.trans k) ?_
                              refine own_go (B := T129.setTop (mkF m 337 #[.val (.long p1), .second, .val (.long p2), .second, .val (.long p3), .second, .val (.int p4), .val (.int p5), .val (.int p6), .val (.int cd), .val (.int rs), .val (.int mx), .val (.int my), .val (.int lo), .val (.int hi), .val (.int fz), .val (.int ft), .val (.int kk), .val (.int z88), .val (.int lo2), .val (.int hi2), .val (.int z90), .val (.int z91), .val (.int z92), .val (.ref b93), .val (.ref b95), .val (.int mm), .val (.int (1 : Int32))] [(.int (1 : Int32)), (.int (1 : Int32))])) (fun t k => XS.iload X129.here hx rfl (hb hby at_335) rfl k) ?_
                              refine own_go (B := T129.setTop (mkF m 340 #[.val (.long p1), .second, .val (.long p2), .second, .val (.long p3), .second, .val (.int p4), .val (.int p5), .val (.int p6), .val (.int cd), .val (.int rs), .val (.int mx), .val (.int my), .val (.int lo), .val (.int hi), .val (.int fz), .val (.int ft), .val (.int kk), .val (.int z88), .val (.int lo2), .val (.int hi2), .val (.int z90), .val (.int z91), .val (.int z92), .val (.ref b93), .val (.ref b95), .val (.int mm), .val (.int (1 : Int32))] [])) (fun t k => XS.icmpNo X129.here hx rfl (hb hby at_337) rfl (teq (by decide : (1 : Int32) = (1 : Int32))).2 k) ?_
                              refine own_go (B := T129.setTop (mkF m 341 #[.val (.long p1), .second, .val (.long p2), .second, .val (.long p3), .second, .val (.int p4), .val (.int p5), .val (.int p6), .val (.int cd), .val (.int rs), .val (.int mx), .val (.int my), .val (.int lo), .val (.int hi), .val (.int fz), .val (.int ft), .val (.int kk), .val (.int z88), .val (.int lo2), .val (.int hi2), .val (.int z90), .val (.int z91), .val (.int z92), .val (.ref b93), .val (.ref b95), .val (.int mm), .val (.int (1 : Int32))] [(.int (1 : Int32))])) (fun t k => XS.iconst X129.here hx rfl (hb hby at_340) k) ?_
                              refine own_go (B := T129.setTop (mkF m 345 #[.val (.long p1), .second, .val (.long p2), .second, .val (.long p3), .second, .val (.int p4), .val (.int p5), .val (.int p6), .val (.int cd), .val (.int rs), .val (.int mx), .val (.int my), .val (.int lo), .val (.int hi), .val (.int fz), .val (.int ft), .val (.int kk), .val (.int z88), .val (.int lo2), .val (.int hi2), .val (.int z90), .val (.int z91), .val (.int z92), .val (.ref b93), .val (.ref b95), .val (.int mm), .val (.int (1 : Int32))] [(.int (1 : Int32))])) (fun t k => XS.goto X129.here hx rfl (pc0 := 341) (pc' := 345) rfl (hb hby at_341) (by decide) (by decide) k) ?_
                              obtain ⟨fs, hr, hrun, hended, hW, hsame⟩ := X129.leave (v := some (.int (1 : Int32))) (fun h => by rw [Bd.returns] at h; cases h)
                              refine ⟨_, _, retN X129 hx (t := .boolean) Bd.returns (by simp) (hb hby at_345) hr, hK _ _ ⟨hrun, hended, _, _, rfl, ?_, ⟨_, rfl⟩, hW, hsame.mono (by decide) (by decide)⟩⟩
                              show own_Q_law Z p1 p2 p3 p4 p5 p6 w_cache cl h0 n0 _ T129.heap _
                              rw [eh129]
                              exact ⟨rfl, N129⟩
                            · refine own_go (B := T97.setTop (mkF m 313 #[.val (.long p1), .second, .val (.long p2), .second, .val (.long p3), .second, .val (.int p4), .val (.int p5), .val (.int p6), .val (.int cd), .val (.int rs), .val (.int mx), .val (.int my), .val (.int lo), .val (.int hi), .val (.int fz), .val (.int ft), .val (.int kk), .val (.int z88), .val (.int lo2), .val (.int hi2), .val (.int z90), .val (.int z91), .val (.int z92), .val (.ref b93), .val (.ref b95), .val (.int mm), .unset] [])) (fun t k => XS.icmpYes X97.here hx rfl (pc0 := 306) (pc' := 313) rfl (hb hby at_306) rfl (feq hc306_118).2 (by decide) (by decide) k) ?_
                              refine own_go (B := T97.setTop (mkF m 314 #[.val (.long p1), .second, .val (.long p2), .second, .val (.long p3), .second, .val (.int p4), .val (.int p5), .val (.int p6), .val (.int cd), .val (.int rs), .val (.int mx), .val (.int my), .val (.int lo), .val (.int hi), .val (.int fz), .val (.int ft), .val (.int kk), .val (.int z88), .val (.int lo2), .val (.int hi2), .val (.int z90), .val (.int z91), .val (.int z92), .val (.ref b93), .val (.ref b95), .val (.int mm), .unset] [(.int (0 : Int32))])) (fun t k => XS.iconst X97.here hx rfl (hb hby at_313) k) ?_
                              refine own_go (B := T97.setTop (mkF m 316 #[.val (.long p1), .second, .val (.long p2), .second, .val (.long p3), .second, .val (.int p4), .val (.int p5), .val (.int p6), .val (.int cd), .val (.int rs), .val (.int mx), .val (.int my), .val (.int lo), .val (.int hi), .val (.int fz), .val (.int ft), .val (.int kk), .val (.int z88), .val (.int lo2), .val (.int hi2), .val (.int z90), .val (.int z91), .val (.int z92), .val (.ref b93), .val (.ref b95), .val (.int mm), .val (.int (0 : Int32))] [])) (fun t k => XS.istore X97.here hx rfl (hb hby at_314) rfl (l' := #[.val (.long p1), .second, .val (.long p2), .second, .val (.long p3), .second, .val (.int p4), .val (.int p5), .val (.int p6), .val (.int cd), .val (.int rs), .val (.int mx), .val (.int my), .val (.int lo), .val (.int hi), .val (.int fz), .val (.int ft), .val (.int kk), .val (.int z88), .val (.int lo2), .val (.int hi2), .val (.int z90), .val (.int z91), .val (.int z92), .val (.ref b93), .val (.ref b95), .val (.int mm), .val (.int (0 : Int32))]) rfl k) ?_
                              refine own_go (B := T97.setTop (mkF m 318 #[.val (.long p1), .second, .val (.long p2), .second, .val (.long p3), .second, .val (.int p4), .val (.int p5), .val (.int p6), .val (.int cd), .val (.int rs), .val (.int mx), .val (.int my), .val (.int lo), .val (.int hi), .val (.int fz), .val (.int ft), .val (.int kk), .val (.int z88), .val (.int lo2), .val (.int hi2), .val (.int z90), .val (.int z91), .val (.int z92), .val (.ref b93), .val (.ref b95), .val (.int mm), .val (.int (0 : Int32))] [(.ref b93)])) (fun t k => XS.aload X97.here hx rfl (hb hby at_316) rfl rfl k) ?_
                              refine own_go (B := T97.setTop (mkF m 320 #[.val (.long p1), .second, .val (.long p2), .second, .val (.long p3), .second, .val (.int p4), .val (.int p5), .val (.int p6), .val (.int cd), .val (.int rs), .val (.int mx), .val (.int my), .val (.int lo), .val (.int hi), .val (.int fz), .val (.int ft), .val (.int kk), .val (.int z88), .val (.int lo2), .val (.int hi2), .val (.int z90), .val (.int z91), .val (.int z92), .val (.ref b93), .val (.ref b95), .val (.int mm), .val (.int (0 : Int32))] [(.ref b95), (.ref b93)])) (fun t k => XS.aload X97.here hx rfl (hb hby at_318) rfl rfl k) ?_
                              have f132 := ((Fn94_0.ext E95).keep Kc97 (ninS (Nat.ne_of_lt (Nat.lt_of_lt_of_le lt_b93_95 (Nat.le_of_eq g95.symm))) nin0))
                              have f133 := ((Fn94_1.ext E95).keep Kc97 (ninS (Nat.ne_of_lt (Nat.lt_of_lt_of_le lt_b93_95 (Nat.le_of_eq g95.symm))) nin0))
                              have f134 := ((Fn94_2.ext E95).keep Kc97 (ninS (Nat.ne_of_lt (Nat.lt_of_lt_of_le lt_b93_95 (Nat.le_of_eq g95.symm))) nin0))
                              have f135 := ((Fn94_3.ext E95).keep Kc97 (ninS (Nat.ne_of_lt (Nat.lt_of_lt_of_le lt_b93_95 (Nat.le_of_eq g95.symm))) nin0))
                              have f136 := ((Fn94_4.ext E95).keep Kc97 (ninS (Nat.ne_of_lt (Nat.lt_of_lt_of_le lt_b93_95 (Nat.le_of_eq g95.symm))) nin0))
                              have f137 := ((Fn94_5.ext E95).keep Kc97 (ninS (Nat.ne_of_lt (Nat.lt_of_lt_of_le lt_b93_95 (Nat.le_of_eq g95.symm))) nin0))
                              have f138 := (A95.keep Kc97)
                              have f140 := ((f96.ext E95).keep Kc97)
                              obtain ⟨cq139, kq139, q139a, q139b, q139c⟩ := isOf hZ (rfl : T97.heap = T97.heap) f140
                              obtain ⟨_, _, ⟨T139, L139, k139, n139⟩, -, X139, ⟨Lc139, hQ139, l139, y139, z139⟩, st139⟩ := X97.virtualBack hx (y := (⟨"com/example/helm_of_panes/helmofpanes/input/AbsoluteAxis", "equals", "(Ljava/lang/Object;)Z"⟩ : MethodName)) (z := (⟨"com/example/helm_of_panes/helmofpanes/input/AbsoluteAxis", "equals", "(Ljava/lang/Object;)Z"⟩ : MethodName)) hown (mvT hZ (hw _ (List.mem_of_getElem? (i := 35) rfl))) (mvT hZ (hw _ (List.mem_of_getElem? (i := 36) rfl))) (notFace_of_selects (args := #[]) (mvT hZ (hw _ (List.mem_of_getElem? (i := 38) rfl)))) (mvT hZ (hw _ (List.mem_of_getElem? (i := 38) rfl))) (mvT hZ (hw _ (List.mem_of_getElem? (i := 37) rfl))) (by decide) (backOf (W := 0) (own_rm_eqP l Z a0 hw [] b93 b95 cd lo hi fz ft rs z88 lo2 hi2 z90 z91 z92 (0 : Int32) T97.heap n0 O97 (Nat.ne_of_lt (Nat.lt_of_lt_of_le lt_b93_95 (Nat.le_of_eq g95.symm))) f138 f132 f133 f134 f135 f136 f137 Fn97_0 Fn97_1 Fn97_2 Fn97_3 Fn97_4 Fn97_5 (by simp [hc271_113, hc278_114, hc285_115, hc292_116, hc299_117, hc306_118])) hZ (hw _ (List.mem_of_getElem? (i := 39) rfl)) (hw _ (List.mem_of_getElem? (i := 9) rfl)) (by decide) (by decide)) q139a q139c (g := (mkF m 320 #[.val (.long p1), .second, .val (.long p2), .second, .val (.long p3), .second, .val (.int p4), .val (.int p5), .val (.int p6), .val (.int cd), .val (.int rs), .val (.int mx), .val (.int my), .val (.int lo), .val (.int hi), .val (.int fz), .val (.int ft), .val (.int kk), .val (.int z88), .val (.int lo2), .val (.int hi2), .val (.int z90), .val (.int z91), .val (.int z92), .val (.ref b93), .val (.ref b95), .val (.int mm), .val (.int (0 : Int32))] [(.ref b95), (.ref b93)])) rfl (by rw [hml]; rfl) (Steps.refl _) (argsL := [(.ref b95)]) (rest := []) (lenOf own_pd_4 rfl) rfl (by show 2 * 0 + _ ≤ _; exact Nat.le_of_eq rfl) (hb hby at_320) (fun _ _ => ⟨rfl, (rfl : T97.heap = T97.heap), (by decide : 2 + 0 ≤ _), (by decide : 12 + 0 ≤ _)⟩)
                              dsimp only [Pt.U, Pt.locs, Pt.cells, Pt.slots] at X139 l139 y139 z139 st139 hQ139
                              subst l139 y139 z139
                              obtain ⟨rfl, N139q, eh139⟩ := hQ139
                              have N139 := Fr.app N97 N139q
                              refine own_go (B := T139.setTop (mkF m 323 #[.val (.long p1), .second, .val (.long p2), .second, .val (.long p3), .second, .val (.int p4), .val (.int p5), .val (.int p6), .val (.int cd), .val (.int rs), .val (.int mx), .val (.int my), .val (.int lo), .val (.int hi), .val (.int fz), .val (.int ft), .val (.int kk), .val (.int z88), .val (.int lo2), .val (.int hi2), .val (.int z90), .val (.int z91), .val (.int z92), .val (.ref b93), .val (.ref b95), .val (.int mm), .val (.int (0 : Int32))] [(.int (0 : Int32))])) (fun t k => st139.trans k) ?_
                              refine own_go (B := T139.setTop (mkF m 325 #[.val (.long p1), .second, .val (.long p2), .second, .val (.long p3), .second, .val (.int p4), .val (.int p5), .val (.int p6), .val (.int cd), .val (.int rs), .val (.int mx), .val (.int my), .val (.int lo), .val (.int hi), .val (.int fz), .val (.int ft), .val (.int kk), .val (.int z88), .val (.int lo2), .val (.int hi2), .val (.int z90), .val (.int z91), .val (.int z92), .val (.ref b93), .val (.ref b95), .val (.int mm), .val (.int (0 : Int32))] [(.int (0 : Int32)), (.int (0 : Int32))])) (fun t k => XS.iload X139.here hx rfl (hb hby at_323) rfl k) ?_
                              refine own_go (B := T139.setTop (mkF m 328 #[.val (.long p1), .second, .val (.long p2), .second, .val (.long p3), .second, .val (.int p4), .val (.int p5), .val (.int p6), .val (.int cd), .val (.int rs), .val (.int mx), .val (.int my), .val (.int lo), .val (.int hi), .val (.int fz), .val (.int ft), .val (.int kk), .val (.int z88), .val (.int lo2), .val (.int hi2), .val (.int z90), .val (.int z91), .val (.int z92), .val (.ref b93), .val (.ref b95), .val (.int mm), .val (.int (0 : Int32))] [])) (fun t k => XS.icmpNo X139.here hx rfl (hb hby at_325) rfl (teq (by decide : (0 : Int32) = (0 : Int32))).2 k) ?_
                              refine own_go (B := T139.setTop (mkF m 330 #[.val (.long p1), .second, .val (.long p2), .second, .val (.long p3), .second, .val (.int p4), .val (.int p5), .val (.int p6), .val (.int cd), .val (.int rs), .val (.int mx), .val (.int my), .val (.int lo), .val (.int hi), .val (.int fz), .val (.int ft), .val (.int kk), .val (.int z88), .val (.int lo2), .val (.int hi2), .val (.int z90), .val (.int z91), .val (.int z92), .val (.ref b93), .val (.ref b95), .val (.int mm), .val (.int (0 : Int32))] [(.ref b95)])) (fun t k => XS.aload X139.here hx rfl (hb hby at_328) rfl rfl k) ?_
                              refine own_go (B := T139.setTop (mkF m 332 #[.val (.long p1), .second, .val (.long p2), .second, .val (.long p3), .second, .val (.int p4), .val (.int p5), .val (.int p6), .val (.int cd), .val (.int rs), .val (.int mx), .val (.int my), .val (.int lo), .val (.int hi), .val (.int fz), .val (.int ft), .val (.int kk), .val (.int z88), .val (.int lo2), .val (.int hi2), .val (.int z90), .val (.int z91), .val (.int z92), .val (.ref b93), .val (.ref b95), .val (.int mm), .val (.int (0 : Int32))] [(.ref b93), (.ref b95)])) (fun t k => XS.aload X139.here hx rfl (hb hby at_330) rfl rfl k) ?_
                              obtain ⟨cq142, kq142, q142a, q142b, q142c⟩ := isOf hZ eh139 f138
                              obtain ⟨_, _, ⟨T142, L142, k142, n142⟩, -, X142, ⟨Lc142, hQ142, l142, y142, z142⟩, st142⟩ := X139.virtualBack hx (y := (⟨"com/example/helm_of_panes/helmofpanes/input/AbsoluteAxis", "equals", "(Ljava/lang/Object;)Z"⟩ : MethodName)) (z := (⟨"com/example/helm_of_panes/helmofpanes/input/AbsoluteAxis", "equals", "(Ljava/lang/Object;)Z"⟩ : MethodName)) hown (mvT hZ (hw _ (List.mem_of_getElem? (i := 35) rfl))) (mvT hZ (hw _ (List.mem_of_getElem? (i := 36) rfl))) (notFace_of_selects (args := #[]) (mvT hZ (hw _ (List.mem_of_getElem? (i := 38) rfl)))) (mvT hZ (hw _ (List.mem_of_getElem? (i := 38) rfl))) (mvT hZ (hw _ (List.mem_of_getElem? (i := 37) rfl))) (by decide) (backOf (W := 0) (own_rm_eqP l Z a0 hw [] b95 b93 z88 lo2 hi2 z90 z91 z92 cd lo hi fz ft rs (0 : Int32) T97.heap n0 O97 (Ne.symm (Nat.ne_of_lt (Nat.lt_of_lt_of_le lt_b93_95 (Nat.le_of_eq g95.symm)))) f140 Fn97_0 Fn97_1 Fn97_2 Fn97_3 Fn97_4 Fn97_5 f132 f133 f134 f135 f136 f137 (by simp [(Eq.symm hc271_113), (Eq.symm hc278_114), (Eq.symm hc285_115), (Eq.symm hc292_116), (Eq.symm hc299_117), (Ne.symm hc306_118)])) hZ (hw _ (List.mem_of_getElem? (i := 39) rfl)) (hw _ (List.mem_of_getElem? (i := 9) rfl)) (by decide) (by decide)) q142a q142c (g := (mkF m 332 #[.val (.long p1), .second, .val (.long p2), .second, .val (.long p3), .second, .val (.int p4), .val (.int p5), .val (.int p6), .val (.int cd), .val (.int rs), .val (.int mx), .val (.int my), .val (.int lo), .val (.int hi), .val (.int fz), .val (.int ft), .val (.int kk), .val (.int z88), .val (.int lo2), .val (.int hi2), .val (.int z90), .val (.int z91), .val (.int z92), .val (.ref b93), .val (.ref b95), .val (.int mm), .val (.int (0 : Int32))] [(.ref b93), (.ref b95)])) rfl (by rw [hml]; rfl) (Steps.refl _) (argsL := [(.ref b93)]) (rest := []) (lenOf own_pd_4 rfl) rfl (by show 2 * 0 + _ ≤ _; exact Nat.le_of_eq rfl) (hb hby at_332) (fun _ _ => ⟨rfl, eh139, (by decide : 2 + 0 ≤ _), (by decide : 12 + 0 ≤ _)⟩)
                              dsimp only [Pt.U, Pt.locs, Pt.cells, Pt.slots] at X142 l142 y142 z142 st142 hQ142
                              subst l142 y142 z142
                              obtain ⟨rfl, N142q, eh142⟩ := hQ142
                              have N142 := Fr.app N139 N142q
                              refine own_go (B := T142.setTop (mkF m 335 #[.val (.long p1), .second, .val (.long p2), .second, .val (.long p3), .second, .val (.int p4), .val (.int p5), .val (.int p6), .val (.int cd), .val (.int rs), .val (.int mx), .val (.int my), .val (.int lo), .val (.int hi), .val (.int fz), .val (.int ft), .val (.int kk), .val (.int z88), .val (.int lo2), .val (.int hi2), .val (.int z90), .val (.int z91), .val (.int z92), .val (.ref b93), .val (.ref b95), .val (.int mm), .val (.int (0 : Int32))] [(.int (0 : Int32))])) (fun t k => st142.trans k) ?_
                              refine own_go (B := T142.setTop (mkF m 337 #[.val (.long p1), .second, .val (.long p2), .second, .val (.long p3), .second, .val (.int p4), .val (.int p5), .val (.int p6), .val (.int cd), .val (.int rs), .val (.int mx), .val (.int my), .val (.int lo), .val (.int hi), .val (.int fz), .val (.int ft), .val (.int kk), .val (.int z88), .val (.int lo2), .val (.int hi2), .val (.int z90), .val (.int z91), .val (.int z92), .val (.ref b93), .val (.ref b95), .val (.int mm), .val (.int (0 : Int32))] [(.int (0 : Int32)), (.int (0 : Int32))])) (fun t k => XS.iload X142.here hx rfl (hb hby at_335) rfl k) ?_
                              refine own_go (B := T142.setTop (mkF m 340 #[.val (.long p1), .second, .val (.long p2), .second, .val (.long p3), .second, .val (.int p4), .val (.int p5), .val (.int p6), .val (.int cd), .val (.int rs), .val (.int mx), .val (.int my), .val (.int lo), .val (.int hi), .val (.int fz), .val (.int ft), .val (.int kk), .val (.int z88), .val (.int lo2), .val (.int hi2), .val (.int z90), .val (.int z91), .val (.int z92), .val (.ref b93), .val (.ref b95), .val (.int mm), .val (.int (0 : Int32))] [])) (fun t k => XS.icmpNo X142.here hx rfl (hb hby at_337) rfl (teq (by decide : (0 : Int32) = (0 : Int32))).2 k) ?_
                              refine own_go (B := T142.setTop (mkF m 341 #[.val (.long p1), .second, .val (.long p2), .second, .val (.long p3), .second, .val (.int p4), .val (.int p5), .val (.int p6), .val (.int cd), .val (.int rs), .val (.int mx), .val (.int my), .val (.int lo), .val (.int hi), .val (.int fz), .val (.int ft), .val (.int kk), .val (.int z88), .val (.int lo2), .val (.int hi2), .val (.int z90), .val (.int z91), .val (.int z92), .val (.ref b93), .val (.ref b95), .val (.int mm), .val (.int (0 : Int32))] [(.int (1 : Int32))])) (fun t k => XS.iconst X142.here hx rfl (hb hby at_340) k) ?_
                              refine own_go (B := T142.setTop (mkF m 345 #[.val (.long p1), .second, .val (.long p2), .second, .val (.long p3), .second, .val (.int p4), .val (.int p5), .val (.int p6), .val (.int cd), .val (.int rs), .val (.int mx), .val (.int my), .val (.int lo), .val (.int hi), .val (.int fz), .val (.int ft), .val (.int kk), .val (.int z88), .val (.int lo2), .val (.int hi2), .val (.int z90), .val (.int z91), .val (.int z92), .val (.ref b93), .val (.ref b95), .val (.int mm), .val (.int (0 : Int32))] [(.int (1 : Int32))])) (fun t k => XS.goto X142.here hx rfl (pc0 := 341) (pc' := 345) rfl (hb hby at_341) (by decide) (by decide) k) ?_
                              obtain ⟨fs, hr, hrun, hended, hW, hsame⟩ := X142.leave (v := some (.int (1 : Int32))) (fun h => by rw [Bd.returns] at h; cases h)
                              refine ⟨_, _, retN X142 hx (t := .boolean) Bd.returns (by simp) (hb hby at_345) hr, hK _ _ ⟨hrun, hended, _, _, rfl, ?_, ⟨_, rfl⟩, hW, hsame.mono (by decide) (by decide)⟩⟩
                              show own_Q_law Z p1 p2 p3 p4 p5 p6 w_cache cl h0 n0 _ T142.heap _
                              rw [eh142]
                              exact ⟨rfl, N142⟩
                          · refine own_go (B := T97.setTop (mkF m 313 #[.val (.long p1), .second, .val (.long p2), .second, .val (.long p3), .second, .val (.int p4), .val (.int p5), .val (.int p6), .val (.int cd), .val (.int rs), .val (.int mx), .val (.int my), .val (.int lo), .val (.int hi), .val (.int fz), .val (.int ft), .val (.int kk), .val (.int z88), .val (.int lo2), .val (.int hi2), .val (.int z90), .val (.int z91), .val (.int z92), .val (.ref b93), .val (.ref b95), .val (.int mm), .unset] [])) (fun t k => XS.icmpYes X97.here hx rfl (pc0 := 299) (pc' := 313) rfl (hb hby at_299) rfl (feq hc299_117).2 (by decide) (by decide) k) ?_
                            refine own_go (B := T97.setTop (mkF m 314 #[.val (.long p1), .second, .val (.long p2), .second, .val (.long p3), .second, .val (.int p4), .val (.int p5), .val (.int p6), .val (.int cd), .val (.int rs), .val (.int mx), .val (.int my), .val (.int lo), .val (.int hi), .val (.int fz), .val (.int ft), .val (.int kk), .val (.int z88), .val (.int lo2), .val (.int hi2), .val (.int z90), .val (.int z91), .val (.int z92), .val (.ref b93), .val (.ref b95), .val (.int mm), .unset] [(.int (0 : Int32))])) (fun t k => XS.iconst X97.here hx rfl (hb hby at_313) k) ?_
                            refine own_go (B := T97.setTop (mkF m 316 #[.val (.long p1), .second, .val (.long p2), .second, .val (.long p3), .second, .val (.int p4), .val (.int p5), .val (.int p6), .val (.int cd), .val (.int rs), .val (.int mx), .val (.int my), .val (.int lo), .val (.int hi), .val (.int fz), .val (.int ft), .val (.int kk), .val (.int z88), .val (.int lo2), .val (.int hi2), .val (.int z90), .val (.int z91), .val (.int z92), .val (.ref b93), .val (.ref b95), .val (.int mm), .val (.int (0 : Int32))] [])) (fun t k => XS.istore X97.here hx rfl (hb hby at_314) rfl (l' := #[.val (.long p1), .second, .val (.long p2), .second, .val (.long p3), .second, .val (.int p4), .val (.int p5), .val (.int p6), .val (.int cd), .val (.int rs), .val (.int mx), .val (.int my), .val (.int lo), .val (.int hi), .val (.int fz), .val (.int ft), .val (.int kk), .val (.int z88), .val (.int lo2), .val (.int hi2), .val (.int z90), .val (.int z91), .val (.int z92), .val (.ref b93), .val (.ref b95), .val (.int mm), .val (.int (0 : Int32))]) rfl k) ?_
                            refine own_go (B := T97.setTop (mkF m 318 #[.val (.long p1), .second, .val (.long p2), .second, .val (.long p3), .second, .val (.int p4), .val (.int p5), .val (.int p6), .val (.int cd), .val (.int rs), .val (.int mx), .val (.int my), .val (.int lo), .val (.int hi), .val (.int fz), .val (.int ft), .val (.int kk), .val (.int z88), .val (.int lo2), .val (.int hi2), .val (.int z90), .val (.int z91), .val (.int z92), .val (.ref b93), .val (.ref b95), .val (.int mm), .val (.int (0 : Int32))] [(.ref b93)])) (fun t k => XS.aload X97.here hx rfl (hb hby at_316) rfl rfl k) ?_
                            refine own_go (B := T97.setTop (mkF m 320 #[.val (.long p1), .second, .val (.long p2), .second, .val (.long p3), .second, .val (.int p4), .val (.int p5), .val (.int p6), .val (.int cd), .val (.int rs), .val (.int mx), .val (.int my), .val (.int lo), .val (.int hi), .val (.int fz), .val (.int ft), .val (.int kk), .val (.int z88), .val (.int lo2), .val (.int hi2), .val (.int z90), .val (.int z91), .val (.int z92), .val (.ref b93), .val (.ref b95), .val (.int mm), .val (.int (0 : Int32))] [(.ref b95), (.ref b93)])) (fun t k => XS.aload X97.here hx rfl (hb hby at_318) rfl rfl k) ?_
                            have f145 := ((Fn94_0.ext E95).keep Kc97 (ninS (Nat.ne_of_lt (Nat.lt_of_lt_of_le lt_b93_95 (Nat.le_of_eq g95.symm))) nin0))
                            have f146 := ((Fn94_1.ext E95).keep Kc97 (ninS (Nat.ne_of_lt (Nat.lt_of_lt_of_le lt_b93_95 (Nat.le_of_eq g95.symm))) nin0))
                            have f147 := ((Fn94_2.ext E95).keep Kc97 (ninS (Nat.ne_of_lt (Nat.lt_of_lt_of_le lt_b93_95 (Nat.le_of_eq g95.symm))) nin0))
                            have f148 := ((Fn94_3.ext E95).keep Kc97 (ninS (Nat.ne_of_lt (Nat.lt_of_lt_of_le lt_b93_95 (Nat.le_of_eq g95.symm))) nin0))
                            have f149 := ((Fn94_4.ext E95).keep Kc97 (ninS (Nat.ne_of_lt (Nat.lt_of_lt_of_le lt_b93_95 (Nat.le_of_eq g95.symm))) nin0))
                            have f150 := ((Fn94_5.ext E95).keep Kc97 (ninS (Nat.ne_of_lt (Nat.lt_of_lt_of_le lt_b93_95 (Nat.le_of_eq g95.symm))) nin0))
                            have f151 := (A95.keep Kc97)
                            have f153 := ((f96.ext E95).keep Kc97)
                            obtain ⟨cq152, kq152, q152a, q152b, q152c⟩ := isOf hZ (rfl : T97.heap = T97.heap) f153
                            obtain ⟨_, _, ⟨T152, L152, k152, n152⟩, -, X152, ⟨Lc152, hQ152, l152, y152, z152⟩, st152⟩ := X97.virtualBack hx (y := (⟨"com/example/helm_of_panes/helmofpanes/input/AbsoluteAxis", "equals", "(Ljava/lang/Object;)Z"⟩ : MethodName)) (z := (⟨"com/example/helm_of_panes/helmofpanes/input/AbsoluteAxis", "equals", "(Ljava/lang/Object;)Z"⟩ : MethodName)) hown (mvT hZ (hw _ (List.mem_of_getElem? (i := 35) rfl))) (mvT hZ (hw _ (List.mem_of_getElem? (i := 36) rfl))) (notFace_of_selects (args := #[]) (mvT hZ (hw _ (List.mem_of_getElem? (i := 38) rfl)))) (mvT hZ (hw _ (List.mem_of_getElem? (i := 38) rfl))) (mvT hZ (hw _ (List.mem_of_getElem? (i := 37) rfl))) (by decide) (backOf (W := 0) (own_rm_eqP l Z a0 hw [] b93 b95 cd lo hi fz ft rs z88 lo2 hi2 z90 z91 z92 (0 : Int32) T97.heap n0 O97 (Nat.ne_of_lt (Nat.lt_of_lt_of_le lt_b93_95 (Nat.le_of_eq g95.symm))) f151 f145 f146 f147 f148 f149 f150 Fn97_0 Fn97_1 Fn97_2 Fn97_3 Fn97_4 Fn97_5 (by simp [hc271_113, hc278_114, hc285_115, hc292_116, hc299_117])) hZ (hw _ (List.mem_of_getElem? (i := 39) rfl)) (hw _ (List.mem_of_getElem? (i := 9) rfl)) (by decide) (by decide)) q152a q152c (g := (mkF m 320 #[.val (.long p1), .second, .val (.long p2), .second, .val (.long p3), .second, .val (.int p4), .val (.int p5), .val (.int p6), .val (.int cd), .val (.int rs), .val (.int mx), .val (.int my), .val (.int lo), .val (.int hi), .val (.int fz), .val (.int ft), .val (.int kk), .val (.int z88), .val (.int lo2), .val (.int hi2), .val (.int z90), .val (.int z91), .val (.int z92), .val (.ref b93), .val (.ref b95), .val (.int mm), .val (.int (0 : Int32))] [(.ref b95), (.ref b93)])) rfl (by rw [hml]; rfl) (Steps.refl _) (argsL := [(.ref b95)]) (rest := []) (lenOf own_pd_4 rfl) rfl (by show 2 * 0 + _ ≤ _; exact Nat.le_of_eq rfl) (hb hby at_320) (fun _ _ => ⟨rfl, (rfl : T97.heap = T97.heap), (by decide : 2 + 0 ≤ _), (by decide : 12 + 0 ≤ _)⟩)
                            dsimp only [Pt.U, Pt.locs, Pt.cells, Pt.slots] at X152 l152 y152 z152 st152 hQ152
                            subst l152 y152 z152
                            obtain ⟨rfl, N152q, eh152⟩ := hQ152
                            have N152 := Fr.app N97 N152q
                            refine own_go (B := T152.setTop (mkF m 323 #[.val (.long p1), .second, .val (.long p2), .second, .val (.long p3), .second, .val (.int p4), .val (.int p5), .val (.int p6), .val (.int cd), .val (.int rs), .val (.int mx), .val (.int my), .val (.int lo), .val (.int hi), .val (.int fz), .val (.int ft), .val (.int kk), .val (.int z88), .val (.int lo2), .val (.int hi2), .val (.int z90), .val (.int z91), .val (.int z92), .val (.ref b93), .val (.ref b95), .val (.int mm), .val (.int (0 : Int32))] [(.int (0 : Int32))])) (fun t k => st152.trans k) ?_
                            refine own_go (B := T152.setTop (mkF m 325 #[.val (.long p1), .second, .val (.long p2), .second, .val (.long p3), .second, .val (.int p4), .val (.int p5), .val (.int p6), .val (.int cd), .val (.int rs), .val (.int mx), .val (.int my), .val (.int lo), .val (.int hi), .val (.int fz), .val (.int ft), .val (.int kk), .val (.int z88), .val (.int lo2), .val (.int hi2), .val (.int z90), .val (.int z91), .val (.int z92), .val (.ref b93), .val (.ref b95), .val (.int mm), .val (.int (0 : Int32))] [(.int (0 : Int32)), (.int (0 : Int32))])) (fun t k => XS.iload X152.here hx rfl (hb hby at_323) rfl k) ?_
                            refine own_go (B := T152.setTop (mkF m 328 #[.val (.long p1), .second, .val (.long p2), .second, .val (.long p3), .second, .val (.int p4), .val (.int p5), .val (.int p6), .val (.int cd), .val (.int rs), .val (.int mx), .val (.int my), .val (.int lo), .val (.int hi), .val (.int fz), .val (.int ft), .val (.int kk), .val (.int z88), .val (.int lo2), .val (.int hi2), .val (.int z90), .val (.int z91), .val (.int z92), .val (.ref b93), .val (.ref b95), .val (.int mm), .val (.int (0 : Int32))] [])) (fun t k => XS.icmpNo X152.here hx rfl (hb hby at_325) rfl (teq (by decide : (0 : Int32) = (0 : Int32))).2 k) ?_
                            refine own_go (B := T152.setTop (mkF m 330 #[.val (.long p1), .second, .val (.long p2), .second, .val (.long p3), .second, .val (.int p4), .val (.int p5), .val (.int p6), .val (.int cd), .val (.int rs), .val (.int mx), .val (.int my), .val (.int lo), .val (.int hi), .val (.int fz), .val (.int ft), .val (.int kk), .val (.int z88), .val (.int lo2), .val (.int hi2), .val (.int z90), .val (.int z91), .val (.int z92), .val (.ref b93), .val (.ref b95), .val (.int mm), .val (.int (0 : Int32))] [(.ref b95)])) (fun t k => XS.aload X152.here hx rfl (hb hby at_328) rfl rfl k) ?_
                            refine own_go (B := T152.setTop (mkF m 332 #[.val (.long p1), .second, .val (.long p2), .second, .val (.long p3), .second, .val (.int p4), .val (.int p5), .val (.int p6), .val (.int cd), .val (.int rs), .val (.int mx), .val (.int my), .val (.int lo), .val (.int hi), .val (.int fz), .val (.int ft), .val (.int kk), .val (.int z88), .val (.int lo2), .val (.int hi2), .val (.int z90), .val (.int z91), .val (.int z92), .val (.ref b93), .val (.ref b95), .val (.int mm), .val (.int (0 : Int32))] [(.ref b93), (.ref b95)])) (fun t k => XS.aload X152.here hx rfl (hb hby at_330) rfl rfl k) ?_
                            obtain ⟨cq155, kq155, q155a, q155b, q155c⟩ := isOf hZ eh152 f151
                            obtain ⟨_, _, ⟨T155, L155, k155, n155⟩, -, X155, ⟨Lc155, hQ155, l155, y155, z155⟩, st155⟩ := X152.virtualBack hx (y := (⟨"com/example/helm_of_panes/helmofpanes/input/AbsoluteAxis", "equals", "(Ljava/lang/Object;)Z"⟩ : MethodName)) (z := (⟨"com/example/helm_of_panes/helmofpanes/input/AbsoluteAxis", "equals", "(Ljava/lang/Object;)Z"⟩ : MethodName)) hown (mvT hZ (hw _ (List.mem_of_getElem? (i := 35) rfl))) (mvT hZ (hw _ (List.mem_of_getElem? (i := 36) rfl))) (notFace_of_selects (args := #[]) (mvT hZ (hw _ (List.mem_of_getElem? (i := 38) rfl)))) (mvT hZ (hw _ (List.mem_of_getElem? (i := 38) rfl))) (mvT hZ (hw _ (List.mem_of_getElem? (i := 37) rfl))) (by decide) (backOf (W := 0) (own_rm_eqP l Z a0 hw [] b95 b93 z88 lo2 hi2 z90 z91 z92 cd lo hi fz ft rs (0 : Int32) T97.heap n0 O97 (Ne.symm (Nat.ne_of_lt (Nat.lt_of_lt_of_le lt_b93_95 (Nat.le_of_eq g95.symm)))) f153 Fn97_0 Fn97_1 Fn97_2 Fn97_3 Fn97_4 Fn97_5 f145 f146 f147 f148 f149 f150 (by simp [(Eq.symm hc271_113), (Eq.symm hc278_114), (Eq.symm hc285_115), (Eq.symm hc292_116), (Ne.symm hc299_117)])) hZ (hw _ (List.mem_of_getElem? (i := 39) rfl)) (hw _ (List.mem_of_getElem? (i := 9) rfl)) (by decide) (by decide)) q155a q155c (g := (mkF m 332 #[.val (.long p1), .second, .val (.long p2), .second, .val (.long p3), .second, .val (.int p4), .val (.int p5), .val (.int p6), .val (.int cd), .val (.int rs), .val (.int mx), .val (.int my), .val (.int lo), .val (.int hi), .val (.int fz), .val (.int ft), .val (.int kk), .val (.int z88), .val (.int lo2), .val (.int hi2), .val (.int z90), .val (.int z91), .val (.int z92), .val (.ref b93), .val (.ref b95), .val (.int mm), .val (.int (0 : Int32))] [(.ref b93), (.ref b95)])) rfl (by rw [hml]; rfl) (Steps.refl _) (argsL := [(.ref b93)]) (rest := []) (lenOf own_pd_4 rfl) rfl (by show 2 * 0 + _ ≤ _; exact Nat.le_of_eq rfl) (hb hby at_332) (fun _ _ => ⟨rfl, eh152, (by decide : 2 + 0 ≤ _), (by decide : 12 + 0 ≤ _)⟩)
                            dsimp only [Pt.U, Pt.locs, Pt.cells, Pt.slots] at X155 l155 y155 z155 st155 hQ155
                            subst l155 y155 z155
                            obtain ⟨rfl, N155q, eh155⟩ := hQ155
                            have N155 := Fr.app N152 N155q
                            refine own_go (B := T155.setTop (mkF m 335 #[.val (.long p1), .second, .val (.long p2), .second, .val (.long p3), .second, .val (.int p4), .val (.int p5), .val (.int p6), .val (.int cd), .val (.int rs), .val (.int mx), .val (.int my), .val (.int lo), .val (.int hi), .val (.int fz), .val (.int ft), .val (.int kk), .val (.int z88), .val (.int lo2), .val (.int hi2), .val (.int z90), .val (.int z91), .val (.int z92), .val (.ref b93), .val (.ref b95), .val (.int mm), .val (.int (0 : Int32))] [(.int (0 : Int32))])) (fun t k => st155.trans k) ?_
                            refine own_go (B := T155.setTop (mkF m 337 #[.val (.long p1), .second, .val (.long p2), .second, .val (.long p3), .second, .val (.int p4), .val (.int p5), .val (.int p6), .val (.int cd), .val (.int rs), .val (.int mx), .val (.int my), .val (.int lo), .val (.int hi), .val (.int fz), .val (.int ft), .val (.int kk), .val (.int z88), .val (.int lo2), .val (.int hi2), .val (.int z90), .val (.int z91), .val (.int z92), .val (.ref b93), .val (.ref b95), .val (.int mm), .val (.int (0 : Int32))] [(.int (0 : Int32)), (.int (0 : Int32))])) (fun t k => XS.iload X155.here hx rfl (hb hby at_335) rfl k) ?_
                            refine own_go (B := T155.setTop (mkF m 340 #[.val (.long p1), .second, .val (.long p2), .second, .val (.long p3), .second, .val (.int p4), .val (.int p5), .val (.int p6), .val (.int cd), .val (.int rs), .val (.int mx), .val (.int my), .val (.int lo), .val (.int hi), .val (.int fz), .val (.int ft), .val (.int kk), .val (.int z88), .val (.int lo2), .val (.int hi2), .val (.int z90), .val (.int z91), .val (.int z92), .val (.ref b93), .val (.ref b95), .val (.int mm), .val (.int (0 : Int32))] [])) (fun t k => XS.icmpNo X155.here hx rfl (hb hby at_337) rfl (teq (by decide : (0 : Int32) = (0 : Int32))).2 k) ?_
                            refine own_go (B := T155.setTop (mkF m 341 #[.val (.long p1), .second, .val (.long p2), .second, .val (.long p3), .second, .val (.int p4), .val (.int p5), .val (.int p6), .val (.int cd), .val (.int rs), .val (.int mx), .val (.int my), .val (.int lo), .val (.int hi), .val (.int fz), .val (.int ft), .val (.int kk), .val (.int z88), .val (.int lo2), .val (.int hi2), .val (.int z90), .val (.int z91), .val (.int z92), .val (.ref b93), .val (.ref b95), .val (.int mm), .val (.int (0 : Int32))] [(.int (1 : Int32))])) (fun t k => XS.iconst X155.here hx rfl (hb hby at_340) k) ?_
                            refine own_go (B := T155.setTop (mkF m 345 #[.val (.long p1), .second, .val (.long p2), .second, .val (.long p3), .second, .val (.int p4), .val (.int p5), .val (.int p6), .val (.int cd), .val (.int rs), .val (.int mx), .val (.int my), .val (.int lo), .val (.int hi), .val (.int fz), .val (.int ft), .val (.int kk), .val (.int z88), .val (.int lo2), .val (.int hi2), .val (.int z90), .val (.int z91), .val (.int z92), .val (.ref b93), .val (.ref b95), .val (.int mm), .val (.int (0 : Int32))] [(.int (1 : Int32))])) (fun t k => XS.goto X155.here hx rfl (pc0 := 341) (pc' := 345) rfl (hb hby at_341) (by decide) (by decide) k) ?_
                            obtain ⟨fs, hr, hrun, hended, hW, hsame⟩ := X155.leave (v := some (.int (1 : Int32))) (fun h => by rw [Bd.returns] at h; cases h)
                            refine ⟨_, _, retN X155 hx (t := .boolean) Bd.returns (by simp) (hb hby at_345) hr, hK _ _ ⟨hrun, hended, _, _, rfl, ?_, ⟨_, rfl⟩, hW, hsame.mono (by decide) (by decide)⟩⟩
                            show own_Q_law Z p1 p2 p3 p4 p5 p6 w_cache cl h0 n0 _ T155.heap _
                            rw [eh155]
                            exact ⟨rfl, N155⟩
                        · refine own_go (B := T97.setTop (mkF m 313 #[.val (.long p1), .second, .val (.long p2), .second, .val (.long p3), .second, .val (.int p4), .val (.int p5), .val (.int p6), .val (.int cd), .val (.int rs), .val (.int mx), .val (.int my), .val (.int lo), .val (.int hi), .val (.int fz), .val (.int ft), .val (.int kk), .val (.int z88), .val (.int lo2), .val (.int hi2), .val (.int z90), .val (.int z91), .val (.int z92), .val (.ref b93), .val (.ref b95), .val (.int mm), .unset] [])) (fun t k => XS.icmpYes X97.here hx rfl (pc0 := 292) (pc' := 313) rfl (hb hby at_292) rfl (feq hc292_116).2 (by decide) (by decide) k) ?_
                          refine own_go (B := T97.setTop (mkF m 314 #[.val (.long p1), .second, .val (.long p2), .second, .val (.long p3), .second, .val (.int p4), .val (.int p5), .val (.int p6), .val (.int cd), .val (.int rs), .val (.int mx), .val (.int my), .val (.int lo), .val (.int hi), .val (.int fz), .val (.int ft), .val (.int kk), .val (.int z88), .val (.int lo2), .val (.int hi2), .val (.int z90), .val (.int z91), .val (.int z92), .val (.ref b93), .val (.ref b95), .val (.int mm), .unset] [(.int (0 : Int32))])) (fun t k => XS.iconst X97.here hx rfl (hb hby at_313) k) ?_
                          refine own_go (B := T97.setTop (mkF m 316 #[.val (.long p1), .second, .val (.long p2), .second, .val (.long p3), .second, .val (.int p4), .val (.int p5), .val (.int p6), .val (.int cd), .val (.int rs), .val (.int mx), .val (.int my), .val (.int lo), .val (.int hi), .val (.int fz), .val (.int ft), .val (.int kk), .val (.int z88), .val (.int lo2), .val (.int hi2), .val (.int z90), .val (.int z91), .val (.int z92), .val (.ref b93), .val (.ref b95), .val (.int mm), .val (.int (0 : Int32))] [])) (fun t k => XS.istore X97.here hx rfl (hb hby at_314) rfl (l' := #[.val (.long p1), .second, .val (.long p2), .second, .val (.long p3), .second, .val (.int p4), .val (.int p5), .val (.int p6), .val (.int cd), .val (.int rs), .val (.int mx), .val (.int my), .val (.int lo), .val (.int hi), .val (.int fz), .val (.int ft), .val (.int kk), .val (.int z88), .val (.int lo2), .val (.int hi2), .val (.int z90), .val (.int z91), .val (.int z92), .val (.ref b93), .val (.ref b95), .val (.int mm), .val (.int (0 : Int32))]) rfl k) ?_
                          refine own_go (B := T97.setTop (mkF m 318 #[.val (.long p1), .second, .val (.long p2), .second, .val (.long p3), .second, .val (.int p4), .val (.int p5), .val (.int p6), .val (.int cd), .val (.int rs), .val (.int mx), .val (.int my), .val (.int lo), .val (.int hi), .val (.int fz), .val (.int ft), .val (.int kk), .val (.int z88), .val (.int lo2), .val (.int hi2), .val (.int z90), .val (.int z91), .val (.int z92), .val (.ref b93), .val (.ref b95), .val (.int mm), .val (.int (0 : Int32))] [(.ref b93)])) (fun t k => XS.aload X97.here hx rfl (hb hby at_316) rfl rfl k) ?_
                          refine own_go (B := T97.setTop (mkF m 320 #[.val (.long p1), .second, .val (.long p2), .second, .val (.long p3), .second, .val (.int p4), .val (.int p5), .val (.int p6), .val (.int cd), .val (.int rs), .val (.int mx), .val (.int my), .val (.int lo), .val (.int hi), .val (.int fz), .val (.int ft), .val (.int kk), .val (.int z88), .val (.int lo2), .val (.int hi2), .val (.int z90), .val (.int z91), .val (.int z92), .val (.ref b93), .val (.ref b95), .val (.int mm), .val (.int (0 : Int32))] [(.ref b95), (.ref b93)])) (fun t k => XS.aload X97.here hx rfl (hb hby at_318) rfl rfl k) ?_
                          have f158 := ((Fn94_0.ext E95).keep Kc97 (ninS (Nat.ne_of_lt (Nat.lt_of_lt_of_le lt_b93_95 (Nat.le_of_eq g95.symm))) nin0))
                          have f159 := ((Fn94_1.ext E95).keep Kc97 (ninS (Nat.ne_of_lt (Nat.lt_of_lt_of_le lt_b93_95 (Nat.le_of_eq g95.symm))) nin0))
                          have f160 := ((Fn94_2.ext E95).keep Kc97 (ninS (Nat.ne_of_lt (Nat.lt_of_lt_of_le lt_b93_95 (Nat.le_of_eq g95.symm))) nin0))
                          have f161 := ((Fn94_3.ext E95).keep Kc97 (ninS (Nat.ne_of_lt (Nat.lt_of_lt_of_le lt_b93_95 (Nat.le_of_eq g95.symm))) nin0))
                          have f162 := ((Fn94_4.ext E95).keep Kc97 (ninS (Nat.ne_of_lt (Nat.lt_of_lt_of_le lt_b93_95 (Nat.le_of_eq g95.symm))) nin0))
                          have f163 := ((Fn94_5.ext E95).keep Kc97 (ninS (Nat.ne_of_lt (Nat.lt_of_lt_of_le lt_b93_95 (Nat.le_of_eq g95.symm))) nin0))
                          have f164 := (A95.keep Kc97)
                          have f166 := ((f96.ext E95).keep Kc97)
                          obtain ⟨cq165, kq165, q165a, q165b, q165c⟩ := isOf hZ (rfl : T97.heap = T97.heap) f166
                          obtain ⟨_, _, ⟨T165, L165, k165, n165⟩, -, X165, ⟨Lc165, hQ165, l165, y165, z165⟩, st165⟩ := X97.virtualBack hx (y := (⟨"com/example/helm_of_panes/helmofpanes/input/AbsoluteAxis", "equals", "(Ljava/lang/Object;)Z"⟩ : MethodName)) (z := (⟨"com/example/helm_of_panes/helmofpanes/input/AbsoluteAxis", "equals", "(Ljava/lang/Object;)Z"⟩ : MethodName)) hown (mvT hZ (hw _ (List.mem_of_getElem? (i := 35) rfl))) (mvT hZ (hw _ (List.mem_of_getElem? (i := 36) rfl))) (notFace_of_selects (args := #[]) (mvT hZ (hw _ (List.mem_of_getElem? (i := 38) rfl)))) (mvT hZ (hw _ (List.mem_of_getElem? (i := 38) rfl))) (mvT hZ (hw _ (List.mem_of_getElem? (i := 37) rfl))) (by decide) (backOf (W := 0) (own_rm_eqP l Z a0 hw [] b93 b95 cd lo hi fz ft rs z88 lo2 hi2 z90 z91 z92 (0 : Int32) T97.heap n0 O97 (Nat.ne_of_lt (Nat.lt_of_lt_of_le lt_b93_95 (Nat.le_of_eq g95.symm))) f164 f158 f159 f160 f161 f162 f163 Fn97_0 Fn97_1 Fn97_2 Fn97_3 Fn97_4 Fn97_5 (by simp [hc271_113, hc278_114, hc285_115, hc292_116])) hZ (hw _ (List.mem_of_getElem? (i := 39) rfl)) (hw _ (List.mem_of_getElem? (i := 9) rfl)) (by decide) (by decide)) q165a q165c (g := (mkF m 320 #[.val (.long p1), .second, .val (.long p2), .second, .val (.long p3), .second, .val (.int p4), .val (.int p5), .val (.int p6), .val (.int cd), .val (.int rs), .val (.int mx), .val (.int my), .val (.int lo), .val (.int hi), .val (.int fz), .val (.int ft), .val (.int kk), .val (.int z88), .val (.int lo2), .val (.int hi2), .val (.int z90), .val (.int z91), .val (.int z92), .val (.ref b93), .val (.ref b95), .val (.int mm), .val (.int (0 : Int32))] [(.ref b95), (.ref b93)])) rfl (by rw [hml]; rfl) (Steps.refl _) (argsL := [(.ref b95)]) (rest := []) (lenOf own_pd_4 rfl) rfl (by show 2 * 0 + _ ≤ _; exact Nat.le_of_eq rfl) (hb hby at_320) (fun _ _ => ⟨rfl, (rfl : T97.heap = T97.heap), (by decide : 2 + 0 ≤ _), (by decide : 12 + 0 ≤ _)⟩)
                          dsimp only [Pt.U, Pt.locs, Pt.cells, Pt.slots] at X165 l165 y165 z165 st165 hQ165
                          subst l165 y165 z165
                          obtain ⟨rfl, N165q, eh165⟩ := hQ165
                          have N165 := Fr.app N97 N165q
                          refine own_go (B := T165.setTop (mkF m 323 #[.val (.long p1), .second, .val (.long p2), .second, .val (.long p3), .second, .val (.int p4), .val (.int p5), .val (.int p6), .val (.int cd), .val (.int rs), .val (.int mx), .val (.int my), .val (.int lo), .val (.int hi), .val (.int fz), .val (.int ft), .val (.int kk), .val (.int z88), .val (.int lo2), .val (.int hi2), .val (.int z90), .val (.int z91), .val (.int z92), .val (.ref b93), .val (.ref b95), .val (.int mm), .val (.int (0 : Int32))] [(.int (0 : Int32))])) (fun t k => st165.trans k) ?_
                          refine own_go (B := T165.setTop (mkF m 325 #[.val (.long p1), .second, .val (.long p2), .second, .val (.long p3), .second, .val (.int p4), .val (.int p5), .val (.int p6), .val (.int cd), .val (.int rs), .val (.int mx), .val (.int my), .val (.int lo), .val (.int hi), .val (.int fz), .val (.int ft), .val (.int kk), .val (.int z88), .val (.int lo2), .val (.int hi2), .val (.int z90), .val (.int z91), .val (.int z92), .val (.ref b93), .val (.ref b95), .val (.int mm), .val (.int (0 : Int32))] [(.int (0 : Int32)), (.int (0 : Int32))])) (fun t k => XS.iload X165.here hx rfl (hb hby at_323) rfl k) ?_
                          refine own_go (B := T165.setTop (mkF m 328 #[.val (.long p1), .second, .val (.long p2), .second, .val (.long p3), .second, .val (.int p4), .val (.int p5), .val (.int p6), .val (.int cd), .val (.int rs), .val (.int mx), .val (.int my), .val (.int lo), .val (.int hi), .val (.int fz), .val (.int ft), .val (.int kk), .val (.int z88), .val (.int lo2), .val (.int hi2), .val (.int z90), .val (.int z91), .val (.int z92), .val (.ref b93), .val (.ref b95), .val (.int mm), .val (.int (0 : Int32))] [])) (fun t k => XS.icmpNo X165.here hx rfl (hb hby at_325) rfl (teq (by decide : (0 : Int32) = (0 : Int32))).2 k) ?_
                          refine own_go (B := T165.setTop (mkF m 330 #[.val (.long p1), .second, .val (.long p2), .second, .val (.long p3), .second, .val (.int p4), .val (.int p5), .val (.int p6), .val (.int cd), .val (.int rs), .val (.int mx), .val (.int my), .val (.int lo), .val (.int hi), .val (.int fz), .val (.int ft), .val (.int kk), .val (.int z88), .val (.int lo2), .val (.int hi2), .val (.int z90), .val (.int z91), .val (.int z92), .val (.ref b93), .val (.ref b95), .val (.int mm), .val (.int (0 : Int32))] [(.ref b95)])) (fun t k => XS.aload X165.here hx rfl (hb hby at_328) rfl rfl k) ?_
                          refine own_go (B := T165.setTop (mkF m 332 #[.val (.long p1), .second, .val (.long p2), .second, .val (.long p3), .second, .val (.int p4), .val (.int p5), .val (.int p6), .val (.int cd), .val (.int rs), .val (.int mx), .val (.int my), .val (.int lo), .val (.int hi), .val (.int fz), .val (.int ft), .val (.int kk), .val (.int z88), .val (.int lo2), .val (.int hi2), .val (.int z90), .val (.int z91), .val (.int z92), .val (.ref b93), .val (.ref b95), .val (.int mm), .val (.int (0 : Int32))] [(.ref b93), (.ref b95)])) (fun t k => XS.aload X165.here hx rfl (hb hby at_330) rfl rfl k) ?_
                          obtain ⟨cq168, kq168, q168a, q168b, q168c⟩ := isOf hZ eh165 f164
                          obtain ⟨_, _, ⟨T168, L168, k168, n168⟩, -, X168, ⟨Lc168, hQ168, l168, y168, z168⟩, st168⟩ := X165.virtualBack hx (y := (⟨"com/example/helm_of_panes/helmofpanes/input/AbsoluteAxis", "equals", "(Ljava/lang/Object;)Z"⟩ : MethodName)) (z := (⟨"com/example/helm_of_panes/helmofpanes/input/AbsoluteAxis", "equals", "(Ljava/lang/Object;)Z"⟩ : MethodName)) hown (mvT hZ (hw _ (List.mem_of_getElem? (i := 35) rfl))) (mvT hZ (hw _ (List.mem_of_getElem? (i := 36) rfl))) (notFace_of_selects (args := #[]) (mvT hZ (hw _ (List.mem_of_getElem? (i := 38) rfl)))) (mvT hZ (hw _ (List.mem_of_getElem? (i := 38) rfl))) (mvT hZ (hw _ (List.mem_of_getElem? (i := 37) rfl))) (by decide) (backOf (W := 0) (own_rm_eqP l Z a0 hw [] b95 b93 z88 lo2 hi2 z90 z91 z92 cd lo hi fz ft rs (0 : Int32) T97.heap n0 O97 (Ne.symm (Nat.ne_of_lt (Nat.lt_of_lt_of_le lt_b93_95 (Nat.le_of_eq g95.symm)))) f166 Fn97_0 Fn97_1 Fn97_2 Fn97_3 Fn97_4 Fn97_5 f158 f159 f160 f161 f162 f163 (by simp [(Eq.symm hc271_113), (Eq.symm hc278_114), (Eq.symm hc285_115), (Ne.symm hc292_116)])) hZ (hw _ (List.mem_of_getElem? (i := 39) rfl)) (hw _ (List.mem_of_getElem? (i := 9) rfl)) (by decide) (by decide)) q168a q168c (g := (mkF m 332 #[.val (.long p1), .second, .val (.long p2), .second, .val (.long p3), .second, .val (.int p4), .val (.int p5), .val (.int p6), .val (.int cd), .val (.int rs), .val (.int mx), .val (.int my), .val (.int lo), .val (.int hi), .val (.int fz), .val (.int ft), .val (.int kk), .val (.int z88), .val (.int lo2), .val (.int hi2), .val (.int z90), .val (.int z91), .val (.int z92), .val (.ref b93), .val (.ref b95), .val (.int mm), .val (.int (0 : Int32))] [(.ref b93), (.ref b95)])) rfl (by rw [hml]; rfl) (Steps.refl _) (argsL := [(.ref b93)]) (rest := []) (lenOf own_pd_4 rfl) rfl (by show 2 * 0 + _ ≤ _; exact Nat.le_of_eq rfl) (hb hby at_332) (fun _ _ => ⟨rfl, eh165, (by decide : 2 + 0 ≤ _), (by decide : 12 + 0 ≤ _)⟩)
                          dsimp only [Pt.U, Pt.locs, Pt.cells, Pt.slots] at X168 l168 y168 z168 st168 hQ168
                          subst l168 y168 z168
                          obtain ⟨rfl, N168q, eh168⟩ := hQ168
                          have N168 := Fr.app N165 N168q
                          refine own_go (B := T168.setTop (mkF m 335 #[.val (.long p1), .second, .val (.long p2), .second, .val (.long p3), .second, .val (.int p4), .val (.int p5), .val (.int p6), .val (.int cd), .val (.int rs), .val (.int mx), .val (.int my), .val (.int lo), .val (.int hi), .val (.int fz), .val (.int ft), .val (.int kk), .val (.int z88), .val (.int lo2), .val (.int hi2), .val (.int z90), .val (.int z91), .val (.int z92), .val (.ref b93), .val (.ref b95), .val (.int mm), .val (.int (0 : Int32))] [(.int (0 : Int32))])) (fun t k => st168.trans k) ?_
                          refine own_go (B := T168.setTop (mkF m 337 #[.val (.long p1), .second, .val (.long p2), .second, .val (.long p3), .second, .val (.int p4), .val (.int p5), .val (.int p6), .val (.int cd), .val (.int rs), .val (.int mx), .val (.int my), .val (.int lo), .val (.int hi), .val (.int fz), .val (.int ft), .val (.int kk), .val (.int z88), .val (.int lo2), .val (.int hi2), .val (.int z90), .val (.int z91), .val (.int z92), .val (.ref b93), .val (.ref b95), .val (.int mm), .val (.int (0 : Int32))] [(.int (0 : Int32)), (.int (0 : Int32))])) (fun t k => XS.iload X168.here hx rfl (hb hby at_335) rfl k) ?_
                          refine own_go (B := T168.setTop (mkF m 340 #[.val (.long p1), .second, .val (.long p2), .second, .val (.long p3), .second, .val (.int p4), .val (.int p5), .val (.int p6), .val (.int cd), .val (.int rs), .val (.int mx), .val (.int my), .val (.int lo), .val (.int hi), .val (.int fz), .val (.int ft), .val (.int kk), .val (.int z88), .val (.int lo2), .val (.int hi2), .val (.int z90), .val (.int z91), .val (.int z92), .val (.ref b93), .val (.ref b95), .val (.int mm), .val (.int (0 : Int32))] [])) (fun t k => XS.icmpNo X168.here hx rfl (hb hby at_337) rfl (teq (by decide : (0 : Int32) = (0 : Int32))).2 k) ?_
                          refine own_go (B := T168.setTop (mkF m 341 #[.val (.long p1), .second, .val (.long p2), .second, .val (.long p3), .second, .val (.int p4), .val (.int p5), .val (.int p6), .val (.int cd), .val (.int rs), .val (.int mx), .val (.int my), .val (.int lo), .val (.int hi), .val (.int fz), .val (.int ft), .val (.int kk), .val (.int z88), .val (.int lo2), .val (.int hi2), .val (.int z90), .val (.int z91), .val (.int z92), .val (.ref b93), .val (.ref b95), .val (.int mm), .val (.int (0 : Int32))] [(.int (1 : Int32))])) (fun t k => XS.iconst X168.here hx rfl (hb hby at_340) k) ?_
                          refine own_go (B := T168.setTop (mkF m 345 #[.val (.long p1), .second, .val (.long p2), .second, .val (.long p3), .second, .val (.int p4), .val (.int p5), .val (.int p6), .val (.int cd), .val (.int rs), .val (.int mx), .val (.int my), .val (.int lo), .val (.int hi), .val (.int fz), .val (.int ft), .val (.int kk), .val (.int z88), .val (.int lo2), .val (.int hi2), .val (.int z90), .val (.int z91), .val (.int z92), .val (.ref b93), .val (.ref b95), .val (.int mm), .val (.int (0 : Int32))] [(.int (1 : Int32))])) (fun t k => XS.goto X168.here hx rfl (pc0 := 341) (pc' := 345) rfl (hb hby at_341) (by decide) (by decide) k) ?_
                          obtain ⟨fs, hr, hrun, hended, hW, hsame⟩ := X168.leave (v := some (.int (1 : Int32))) (fun h => by rw [Bd.returns] at h; cases h)
                          refine ⟨_, _, retN X168 hx (t := .boolean) Bd.returns (by simp) (hb hby at_345) hr, hK _ _ ⟨hrun, hended, _, _, rfl, ?_, ⟨_, rfl⟩, hW, hsame.mono (by decide) (by decide)⟩⟩
                          show own_Q_law Z p1 p2 p3 p4 p5 p6 w_cache cl h0 n0 _ T168.heap _
                          rw [eh168]
                          exact ⟨rfl, N168⟩
                      · refine own_go (B := T97.setTop (mkF m 313 #[.val (.long p1), .second, .val (.long p2), .second, .val (.long p3), .second, .val (.int p4), .val (.int p5), .val (.int p6), .val (.int cd), .val (.int rs), .val (.int mx), .val (.int my), .val (.int lo), .val (.int hi), .val (.int fz), .val (.int ft), .val (.int kk), .val (.int z88), .val (.int lo2), .val (.int hi2), .val (.int z90), .val (.int z91), .val (.int z92), .val (.ref b93), .val (.ref b95), .val (.int mm), .unset] [])) (fun t k => XS.icmpYes X97.here hx rfl (pc0 := 285) (pc' := 313) rfl (hb hby at_285) rfl (feq hc285_115).2 (by decide) (by decide) k) ?_
                        refine own_go (B := T97.setTop (mkF m 314 #[.val (.long p1), .second, .val (.long p2), .second, .val (.long p3), .second, .val (.int p4), .val (.int p5), .val (.int p6), .val (.int cd), .val (.int rs), .val (.int mx), .val (.int my), .val (.int lo), .val (.int hi), .val (.int fz), .val (.int ft), .val (.int kk), .val (.int z88), .val (.int lo2), .val (.int hi2), .val (.int z90), .val (.int z91), .val (.int z92), .val (.ref b93), .val (.ref b95), .val (.int mm), .unset] [(.int (0 : Int32))])) (fun t k => XS.iconst X97.here hx rfl (hb hby at_313) k) ?_
                        refine own_go (B := T97.setTop (mkF m 316 #[.val (.long p1), .second, .val (.long p2), .second, .val (.long p3), .second, .val (.int p4), .val (.int p5), .val (.int p6), .val (.int cd), .val (.int rs), .val (.int mx), .val (.int my), .val (.int lo), .val (.int hi), .val (.int fz), .val (.int ft), .val (.int kk), .val (.int z88), .val (.int lo2), .val (.int hi2), .val (.int z90), .val (.int z91), .val (.int z92), .val (.ref b93), .val (.ref b95), .val (.int mm), .val (.int (0 : Int32))] [])) (fun t k => XS.istore X97.here hx rfl (hb hby at_314) rfl (l' := #[.val (.long p1), .second, .val (.long p2), .second, .val (.long p3), .second, .val (.int p4), .val (.int p5), .val (.int p6), .val (.int cd), .val (.int rs), .val (.int mx), .val (.int my), .val (.int lo), .val (.int hi), .val (.int fz), .val (.int ft), .val (.int kk), .val (.int z88), .val (.int lo2), .val (.int hi2), .val (.int z90), .val (.int z91), .val (.int z92), .val (.ref b93), .val (.ref b95), .val (.int mm), .val (.int (0 : Int32))]) rfl k) ?_
                        refine own_go (B := T97.setTop (mkF m 318 #[.val (.long p1), .second, .val (.long p2), .second, .val (.long p3), .second, .val (.int p4), .val (.int p5), .val (.int p6), .val (.int cd), .val (.int rs), .val (.int mx), .val (.int my), .val (.int lo), .val (.int hi), .val (.int fz), .val (.int ft), .val (.int kk), .val (.int z88), .val (.int lo2), .val (.int hi2), .val (.int z90), .val (.int z91), .val (.int z92), .val (.ref b93), .val (.ref b95), .val (.int mm), .val (.int (0 : Int32))] [(.ref b93)])) (fun t k => XS.aload X97.here hx rfl (hb hby at_316) rfl rfl k) ?_
                        refine own_go (B := T97.setTop (mkF m 320 #[.val (.long p1), .second, .val (.long p2), .second, .val (.long p3), .second, .val (.int p4), .val (.int p5), .val (.int p6), .val (.int cd), .val (.int rs), .val (.int mx), .val (.int my), .val (.int lo), .val (.int hi), .val (.int fz), .val (.int ft), .val (.int kk), .val (.int z88), .val (.int lo2), .val (.int hi2), .val (.int z90), .val (.int z91), .val (.int z92), .val (.ref b93), .val (.ref b95), .val (.int mm), .val (.int (0 : Int32))] [(.ref b95), (.ref b93)])) (fun t k => XS.aload X97.here hx rfl (hb hby at_318) rfl rfl k) ?_
                        have f171 := ((Fn94_0.ext E95).keep Kc97 (ninS (Nat.ne_of_lt (Nat.lt_of_lt_of_le lt_b93_95 (Nat.le_of_eq g95.symm))) nin0))
                        have f172 := ((Fn94_1.ext E95).keep Kc97 (ninS (Nat.ne_of_lt (Nat.lt_of_lt_of_le lt_b93_95 (Nat.le_of_eq g95.symm))) nin0))
                        have f173 := ((Fn94_2.ext E95).keep Kc97 (ninS (Nat.ne_of_lt (Nat.lt_of_lt_of_le lt_b93_95 (Nat.le_of_eq g95.symm))) nin0))
                        have f174 := ((Fn94_3.ext E95).keep Kc97 (ninS (Nat.ne_of_lt (Nat.lt_of_lt_of_le lt_b93_95 (Nat.le_of_eq g95.symm))) nin0))
                        have f175 := ((Fn94_4.ext E95).keep Kc97 (ninS (Nat.ne_of_lt (Nat.lt_of_lt_of_le lt_b93_95 (Nat.le_of_eq g95.symm))) nin0))
                        have f176 := ((Fn94_5.ext E95).keep Kc97 (ninS (Nat.ne_of_lt (Nat.lt_of_lt_of_le lt_b93_95 (Nat.le_of_eq g95.symm))) nin0))
                        have f177 := (A95.keep Kc97)
                        have f179 := ((f96.ext E95).keep Kc97)
                        obtain ⟨cq178, kq178, q178a, q178b, q178c⟩ := isOf hZ (rfl : T97.heap = T97.heap) f179
                        obtain ⟨_, _, ⟨T178, L178, k178, n178⟩, -, X178, ⟨Lc178, hQ178, l178, y178, z178⟩, st178⟩ := X97.virtualBack hx (y := (⟨"com/example/helm_of_panes/helmofpanes/input/AbsoluteAxis", "equals", "(Ljava/lang/Object;)Z"⟩ : MethodName)) (z := (⟨"com/example/helm_of_panes/helmofpanes/input/AbsoluteAxis", "equals", "(Ljava/lang/Object;)Z"⟩ : MethodName)) hown (mvT hZ (hw _ (List.mem_of_getElem? (i := 35) rfl))) (mvT hZ (hw _ (List.mem_of_getElem? (i := 36) rfl))) (notFace_of_selects (args := #[]) (mvT hZ (hw _ (List.mem_of_getElem? (i := 38) rfl)))) (mvT hZ (hw _ (List.mem_of_getElem? (i := 38) rfl))) (mvT hZ (hw _ (List.mem_of_getElem? (i := 37) rfl))) (by decide) (backOf (W := 0) (own_rm_eqP l Z a0 hw [] b93 b95 cd lo hi fz ft rs z88 lo2 hi2 z90 z91 z92 (0 : Int32) T97.heap n0 O97 (Nat.ne_of_lt (Nat.lt_of_lt_of_le lt_b93_95 (Nat.le_of_eq g95.symm))) f177 f171 f172 f173 f174 f175 f176 Fn97_0 Fn97_1 Fn97_2 Fn97_3 Fn97_4 Fn97_5 (by simp [hc271_113, hc278_114, hc285_115])) hZ (hw _ (List.mem_of_getElem? (i := 39) rfl)) (hw _ (List.mem_of_getElem? (i := 9) rfl)) (by decide) (by decide)) q178a q178c (g := (mkF m 320 #[.val (.long p1), .second, .val (.long p2), .second, .val (.long p3), .second, .val (.int p4), .val (.int p5), .val (.int p6), .val (.int cd), .val (.int rs), .val (.int mx), .val (.int my), .val (.int lo), .val (.int hi), .val (.int fz), .val (.int ft), .val (.int kk), .val (.int z88), .val (.int lo2), .val (.int hi2), .val (.int z90), .val (.int z91), .val (.int z92), .val (.ref b93), .val (.ref b95), .val (.int mm), .val (.int (0 : Int32))] [(.ref b95), (.ref b93)])) rfl (by rw [hml]; rfl) (Steps.refl _) (argsL := [(.ref b95)]) (rest := []) (lenOf own_pd_4 rfl) rfl (by show 2 * 0 + _ ≤ _; exact Nat.le_of_eq rfl) (hb hby at_320) (fun _ _ => ⟨rfl, (rfl : T97.heap = T97.heap), (by decide : 2 + 0 ≤ _), (by decide : 12 + 0 ≤ _)⟩)
                        dsimp only [Pt.U, Pt.locs, Pt.cells, Pt.slots] at X178 l178 y178 z178 st178 hQ178
                        subst l178 y178 z178
                        obtain ⟨rfl, N178q, eh178⟩ := hQ178
                        have N178 := Fr.app N97 N178q
                        refine own_go (B := T178.setTop (mkF m 323 #[.val (.long p1), .second, .val (.long p2), .second, .val (.long p3), .second, .val (.int p4), .val (.int p5), .val (.int p6), .val (.int cd), .val (.int rs), .val (.int mx), .val (.int my), .val (.int lo), .val (.int hi), .val (.int fz), .val (.int ft), .val (.int kk), .val (.int z88), .val (.int lo2), .val (.int hi2), .val (.int z90), .val (.int z91), .val (.int z92), .val (.ref b93), .val (.ref b95), .val (.int mm), .val (.int (0 : Int32))] [(.int (0 : Int32))])) (fun t k => st178.trans k) ?_
                        refine own_go (B := T178.setTop (mkF m 325 #[.val (.long p1), .second, .val (.long p2), .second, .val (.long p3), .second, .val (.int p4), .val (.int p5), .val (.int p6), .val (.int cd), .val (.int rs), .val (.int mx), .val (.int my), .val (.int lo), .val (.int hi), .val (.int fz), .val (.int ft), .val (.int kk), .val (.int z88), .val (.int lo2), .val (.int hi2), .val (.int z90), .val (.int z91), .val (.int z92), .val (.ref b93), .val (.ref b95), .val (.int mm), .val (.int (0 : Int32))] [(.int (0 : Int32)), (.int (0 : Int32))])) (fun t k => XS.iload X178.here hx rfl (hb hby at_323) rfl k) ?_
                        refine own_go (B := T178.setTop (mkF m 328 #[.val (.long p1), .second, .val (.long p2), .second, .val (.long p3), .second, .val (.int p4), .val (.int p5), .val (.int p6), .val (.int cd), .val (.int rs), .val (.int mx), .val (.int my), .val (.int lo), .val (.int hi), .val (.int fz), .val (.int ft), .val (.int kk), .val (.int z88), .val (.int lo2), .val (.int hi2), .val (.int z90), .val (.int z91), .val (.int z92), .val (.ref b93), .val (.ref b95), .val (.int mm), .val (.int (0 : Int32))] [])) (fun t k => XS.icmpNo X178.here hx rfl (hb hby at_325) rfl (teq (by decide : (0 : Int32) = (0 : Int32))).2 k) ?_
                        refine own_go (B := T178.setTop (mkF m 330 #[.val (.long p1), .second, .val (.long p2), .second, .val (.long p3), .second, .val (.int p4), .val (.int p5), .val (.int p6), .val (.int cd), .val (.int rs), .val (.int mx), .val (.int my), .val (.int lo), .val (.int hi), .val (.int fz), .val (.int ft), .val (.int kk), .val (.int z88), .val (.int lo2), .val (.int hi2), .val (.int z90), .val (.int z91), .val (.int z92), .val (.ref b93), .val (.ref b95), .val (.int mm), .val (.int (0 : Int32))] [(.ref b95)])) (fun t k => XS.aload X178.here hx rfl (hb hby at_328) rfl rfl k) ?_
                        refine own_go (B := T178.setTop (mkF m 332 #[.val (.long p1), .second, .val (.long p2), .second, .val (.long p3), .second, .val (.int p4), .val (.int p5), .val (.int p6), .val (.int cd), .val (.int rs), .val (.int mx), .val (.int my), .val (.int lo), .val (.int hi), .val (.int fz), .val (.int ft), .val (.int kk), .val (.int z88), .val (.int lo2), .val (.int hi2), .val (.int z90), .val (.int z91), .val (.int z92), .val (.ref b93), .val (.ref b95), .val (.int mm), .val (.int (0 : Int32))] [(.ref b93), (.ref b95)])) (fun t k => XS.aload X178.here hx rfl (hb hby at_330) rfl rfl k) ?_
                        obtain ⟨cq181, kq181, q181a, q181b, q181c⟩ := isOf hZ eh178 f177
                        obtain ⟨_, _, ⟨T181, L181, k181, n181⟩, -, X181, ⟨Lc181, hQ181, l181, y181, z181⟩, st181⟩ := X178.virtualBack hx (y := (⟨"com/example/helm_of_panes/helmofpanes/input/AbsoluteAxis", "equals", "(Ljava/lang/Object;)Z"⟩ : MethodName)) (z := (⟨"com/example/helm_of_panes/helmofpanes/input/AbsoluteAxis", "equals", "(Ljava/lang/Object;)Z"⟩ : MethodName)) hown (mvT hZ (hw _ (List.mem_of_getElem? (i := 35) rfl))) (mvT hZ (hw _ (List.mem_of_getElem? (i := 36) rfl))) (notFace_of_selects (args := #[]) (mvT hZ (hw _ (List.mem_of_getElem? (i := 38) rfl)))) (mvT hZ (hw _ (List.mem_of_getElem? (i := 38) rfl))) (mvT hZ (hw _ (List.mem_of_getElem? (i := 37) rfl))) (by decide) (backOf (W := 0) (own_rm_eqP l Z a0 hw [] b95 b93 z88 lo2 hi2 z90 z91 z92 cd lo hi fz ft rs (0 : Int32) T97.heap n0 O97 (Ne.symm (Nat.ne_of_lt (Nat.lt_of_lt_of_le lt_b93_95 (Nat.le_of_eq g95.symm)))) f179 Fn97_0 Fn97_1 Fn97_2 Fn97_3 Fn97_4 Fn97_5 f171 f172 f173 f174 f175 f176 (by simp [(Eq.symm hc271_113), (Eq.symm hc278_114), (Ne.symm hc285_115)])) hZ (hw _ (List.mem_of_getElem? (i := 39) rfl)) (hw _ (List.mem_of_getElem? (i := 9) rfl)) (by decide) (by decide)) q181a q181c (g := (mkF m 332 #[.val (.long p1), .second, .val (.long p2), .second, .val (.long p3), .second, .val (.int p4), .val (.int p5), .val (.int p6), .val (.int cd), .val (.int rs), .val (.int mx), .val (.int my), .val (.int lo), .val (.int hi), .val (.int fz), .val (.int ft), .val (.int kk), .val (.int z88), .val (.int lo2), .val (.int hi2), .val (.int z90), .val (.int z91), .val (.int z92), .val (.ref b93), .val (.ref b95), .val (.int mm), .val (.int (0 : Int32))] [(.ref b93), (.ref b95)])) rfl (by rw [hml]; rfl) (Steps.refl _) (argsL := [(.ref b93)]) (rest := []) (lenOf own_pd_4 rfl) rfl (by show 2 * 0 + _ ≤ _; exact Nat.le_of_eq rfl) (hb hby at_332) (fun _ _ => ⟨rfl, eh178, (by decide : 2 + 0 ≤ _), (by decide : 12 + 0 ≤ _)⟩)
                        dsimp only [Pt.U, Pt.locs, Pt.cells, Pt.slots] at X181 l181 y181 z181 st181 hQ181
                        subst l181 y181 z181
                        obtain ⟨rfl, N181q, eh181⟩ := hQ181
                        have N181 := Fr.app N178 N181q
                        refine own_go (B := T181.setTop (mkF m 335 #[.val (.long p1), .second, .val (.long p2), .second, .val (.long p3), .second, .val (.int p4), .val (.int p5), .val (.int p6), .val (.int cd), .val (.int rs), .val (.int mx), .val (.int my), .val (.int lo), .val (.int hi), .val (.int fz), .val (.int ft), .val (.int kk), .val (.int z88), .val (.int lo2), .val (.int hi2), .val (.int z90), .val (.int z91), .val (.int z92), .val (.ref b93), .val (.ref b95), .val (.int mm), .val (.int (0 : Int32))] [(.int (0 : Int32))])) (fun t k => st181.trans k) ?_
                        refine own_go (B := T181.setTop (mkF m 337 #[.val (.long p1), .second, .val (.long p2), .second, .val (.long p3), .second, .val (.int p4), .val (.int p5), .val (.int p6), .val (.int cd), .val (.int rs), .val (.int mx), .val (.int my), .val (.int lo), .val (.int hi), .val (.int fz), .val (.int ft), .val (.int kk), .val (.int z88), .val (.int lo2), .val (.int hi2), .val (.int z90), .val (.int z91), .val (.int z92), .val (.ref b93), .val (.ref b95), .val (.int mm), .val (.int (0 : Int32))] [(.int (0 : Int32)), (.int (0 : Int32))])) (fun t k => XS.iload X181.here hx rfl (hb hby at_335) rfl k) ?_
                        refine own_go (B := T181.setTop (mkF m 340 #[.val (.long p1), .second, .val (.long p2), .second, .val (.long p3), .second, .val (.int p4), .val (.int p5), .val (.int p6), .val (.int cd), .val (.int rs), .val (.int mx), .val (.int my), .val (.int lo), .val (.int hi), .val (.int fz), .val (.int ft), .val (.int kk), .val (.int z88), .val (.int lo2), .val (.int hi2), .val (.int z90), .val (.int z91), .val (.int z92), .val (.ref b93), .val (.ref b95), .val (.int mm), .val (.int (0 : Int32))] [])) (fun t k => XS.icmpNo X181.here hx rfl (hb hby at_337) rfl (teq (by decide : (0 : Int32) = (0 : Int32))).2 k) ?_
                        refine own_go (B := T181.setTop (mkF m 341 #[.val (.long p1), .second, .val (.long p2), .second, .val (.long p3), .second, .val (.int p4), .val (.int p5), .val (.int p6), .val (.int cd), .val (.int rs), .val (.int mx), .val (.int my), .val (.int lo), .val (.int hi), .val (.int fz), .val (.int ft), .val (.int kk), .val (.int z88), .val (.int lo2), .val (.int hi2), .val (.int z90), .val (.int z91), .val (.int z92), .val (.ref b93), .val (.ref b95), .val (.int mm), .val (.int (0 : Int32))] [(.int (1 : Int32))])) (fun t k => XS.iconst X181.here hx rfl (hb hby at_340) k) ?_
                        refine own_go (B := T181.setTop (mkF m 345 #[.val (.long p1), .second, .val (.long p2), .second, .val (.long p3), .second, .val (.int p4), .val (.int p5), .val (.int p6), .val (.int cd), .val (.int rs), .val (.int mx), .val (.int my), .val (.int lo), .val (.int hi), .val (.int fz), .val (.int ft), .val (.int kk), .val (.int z88), .val (.int lo2), .val (.int hi2), .val (.int z90), .val (.int z91), .val (.int z92), .val (.ref b93), .val (.ref b95), .val (.int mm), .val (.int (0 : Int32))] [(.int (1 : Int32))])) (fun t k => XS.goto X181.here hx rfl (pc0 := 341) (pc' := 345) rfl (hb hby at_341) (by decide) (by decide) k) ?_
                        obtain ⟨fs, hr, hrun, hended, hW, hsame⟩ := X181.leave (v := some (.int (1 : Int32))) (fun h => by rw [Bd.returns] at h; cases h)
                        refine ⟨_, _, retN X181 hx (t := .boolean) Bd.returns (by simp) (hb hby at_345) hr, hK _ _ ⟨hrun, hended, _, _, rfl, ?_, ⟨_, rfl⟩, hW, hsame.mono (by decide) (by decide)⟩⟩
                        show own_Q_law Z p1 p2 p3 p4 p5 p6 w_cache cl h0 n0 _ T181.heap _
                        rw [eh181]
                        exact ⟨rfl, N181⟩
                    · refine own_go (B := T97.setTop (mkF m 313 #[.val (.long p1), .second, .val (.long p2), .second, .val (.long p3), .second, .val (.int p4), .val (.int p5), .val (.int p6), .val (.int cd), .val (.int rs), .val (.int mx), .val (.int my), .val (.int lo), .val (.int hi), .val (.int fz), .val (.int ft), .val (.int kk), .val (.int z88), .val (.int lo2), .val (.int hi2), .val (.int z90), .val (.int z91), .val (.int z92), .val (.ref b93), .val (.ref b95), .val (.int mm), .unset] [])) (fun t k => XS.icmpYes X97.here hx rfl (pc0 := 278) (pc' := 313) rfl (hb hby at_278) rfl (feq hc278_114).2 (by decide) (by decide) k) ?_
                      refine own_go (B := T97.setTop (mkF m 314 #[.val (.long p1), .second, .val (.long p2), .second, .val (.long p3), .second, .val (.int p4), .val (.int p5), .val (.int p6), .val (.int cd), .val (.int rs), .val (.int mx), .val (.int my), .val (.int lo), .val (.int hi), .val (.int fz), .val (.int ft), .val (.int kk), .val (.int z88), .val (.int lo2), .val (.int hi2), .val (.int z90), .val (.int z91), .val (.int z92), .val (.ref b93), .val (.ref b95), .val (.int mm), .unset] [(.int (0 : Int32))])) (fun t k => XS.iconst X97.here hx rfl (hb hby at_313) k) ?_
                      refine own_go (B := T97.setTop (mkF m 316 #[.val (.long p1), .second, .val (.long p2), .second, .val (.long p3), .second, .val (.int p4), .val (.int p5), .val (.int p6), .val (.int cd), .val (.int rs), .val (.int mx), .val (.int my), .val (.int lo), .val (.int hi), .val (.int fz), .val (.int ft), .val (.int kk), .val (.int z88), .val (.int lo2), .val (.int hi2), .val (.int z90), .val (.int z91), .val (.int z92), .val (.ref b93), .val (.ref b95), .val (.int mm), .val (.int (0 : Int32))] [])) (fun t k => XS.istore X97.here hx rfl (hb hby at_314) rfl (l' := #[.val (.long p1), .second, .val (.long p2), .second, .val (.long p3), .second, .val (.int p4), .val (.int p5), .val (.int p6), .val (.int cd), .val (.int rs), .val (.int mx), .val (.int my), .val (.int lo), .val (.int hi), .val (.int fz), .val (.int ft), .val (.int kk), .val (.int z88), .val (.int lo2), .val (.int hi2), .val (.int z90), .val (.int z91), .val (.int z92), .val (.ref b93), .val (.ref b95), .val (.int mm), .val (.int (0 : Int32))]) rfl k) ?_
                      refine own_go (B := T97.setTop (mkF m 318 #[.val (.long p1), .second, .val (.long p2), .second, .val (.long p3), .second, .val (.int p4), .val (.int p5), .val (.int p6), .val (.int cd), .val (.int rs), .val (.int mx), .val (.int my), .val (.int lo), .val (.int hi), .val (.int fz), .val (.int ft), .val (.int kk), .val (.int z88), .val (.int lo2), .val (.int hi2), .val (.int z90), .val (.int z91), .val (.int z92), .val (.ref b93), .val (.ref b95), .val (.int mm), .val (.int (0 : Int32))] [(.ref b93)])) (fun t k => XS.aload X97.here hx rfl (hb hby at_316) rfl rfl k) ?_
                      refine own_go (B := T97.setTop (mkF m 320 #[.val (.long p1), .second, .val (.long p2), .second, .val (.long p3), .second, .val (.int p4), .val (.int p5), .val (.int p6), .val (.int cd), .val (.int rs), .val (.int mx), .val (.int my), .val (.int lo), .val (.int hi), .val (.int fz), .val (.int ft), .val (.int kk), .val (.int z88), .val (.int lo2), .val (.int hi2), .val (.int z90), .val (.int z91), .val (.int z92), .val (.ref b93), .val (.ref b95), .val (.int mm), .val (.int (0 : Int32))] [(.ref b95), (.ref b93)])) (fun t k => XS.aload X97.here hx rfl (hb hby at_318) rfl rfl k) ?_
                      have f184 := ((Fn94_0.ext E95).keep Kc97 (ninS (Nat.ne_of_lt (Nat.lt_of_lt_of_le lt_b93_95 (Nat.le_of_eq g95.symm))) nin0))
                      have f185 := ((Fn94_1.ext E95).keep Kc97 (ninS (Nat.ne_of_lt (Nat.lt_of_lt_of_le lt_b93_95 (Nat.le_of_eq g95.symm))) nin0))
                      have f186 := ((Fn94_2.ext E95).keep Kc97 (ninS (Nat.ne_of_lt (Nat.lt_of_lt_of_le lt_b93_95 (Nat.le_of_eq g95.symm))) nin0))
                      have f187 := ((Fn94_3.ext E95).keep Kc97 (ninS (Nat.ne_of_lt (Nat.lt_of_lt_of_le lt_b93_95 (Nat.le_of_eq g95.symm))) nin0))
                      have f188 := ((Fn94_4.ext E95).keep Kc97 (ninS (Nat.ne_of_lt (Nat.lt_of_lt_of_le lt_b93_95 (Nat.le_of_eq g95.symm))) nin0))
                      have f189 := ((Fn94_5.ext E95).keep Kc97 (ninS (Nat.ne_of_lt (Nat.lt_of_lt_of_le lt_b93_95 (Nat.le_of_eq g95.symm))) nin0))
                      have f190 := (A95.keep Kc97)
                      have f192 := ((f96.ext E95).keep Kc97)
                      obtain ⟨cq191, kq191, q191a, q191b, q191c⟩ := isOf hZ (rfl : T97.heap = T97.heap) f192
                      obtain ⟨_, _, ⟨T191, L191, k191, n191⟩, -, X191, ⟨Lc191, hQ191, l191, y191, z191⟩, st191⟩ := X97.virtualBack hx (y := (⟨"com/example/helm_of_panes/helmofpanes/input/AbsoluteAxis", "equals", "(Ljava/lang/Object;)Z"⟩ : MethodName)) (z := (⟨"com/example/helm_of_panes/helmofpanes/input/AbsoluteAxis", "equals", "(Ljava/lang/Object;)Z"⟩ : MethodName)) hown (mvT hZ (hw _ (List.mem_of_getElem? (i := 35) rfl))) (mvT hZ (hw _ (List.mem_of_getElem? (i := 36) rfl))) (notFace_of_selects (args := #[]) (mvT hZ (hw _ (List.mem_of_getElem? (i := 38) rfl)))) (mvT hZ (hw _ (List.mem_of_getElem? (i := 38) rfl))) (mvT hZ (hw _ (List.mem_of_getElem? (i := 37) rfl))) (by decide) (backOf (W := 0) (own_rm_eqP l Z a0 hw [] b93 b95 cd lo hi fz ft rs z88 lo2 hi2 z90 z91 z92 (0 : Int32) T97.heap n0 O97 (Nat.ne_of_lt (Nat.lt_of_lt_of_le lt_b93_95 (Nat.le_of_eq g95.symm))) f190 f184 f185 f186 f187 f188 f189 Fn97_0 Fn97_1 Fn97_2 Fn97_3 Fn97_4 Fn97_5 (by simp [hc271_113, hc278_114])) hZ (hw _ (List.mem_of_getElem? (i := 39) rfl)) (hw _ (List.mem_of_getElem? (i := 9) rfl)) (by decide) (by decide)) q191a q191c (g := (mkF m 320 #[.val (.long p1), .second, .val (.long p2), .second, .val (.long p3), .second, .val (.int p4), .val (.int p5), .val (.int p6), .val (.int cd), .val (.int rs), .val (.int mx), .val (.int my), .val (.int lo), .val (.int hi), .val (.int fz), .val (.int ft), .val (.int kk), .val (.int z88), .val (.int lo2), .val (.int hi2), .val (.int z90), .val (.int z91), .val (.int z92), .val (.ref b93), .val (.ref b95), .val (.int mm), .val (.int (0 : Int32))] [(.ref b95), (.ref b93)])) rfl (by rw [hml]; rfl) (Steps.refl _) (argsL := [(.ref b95)]) (rest := []) (lenOf own_pd_4 rfl) rfl (by show 2 * 0 + _ ≤ _; exact Nat.le_of_eq rfl) (hb hby at_320) (fun _ _ => ⟨rfl, (rfl : T97.heap = T97.heap), (by decide : 2 + 0 ≤ _), (by decide : 12 + 0 ≤ _)⟩)
                      dsimp only [Pt.U, Pt.locs, Pt.cells, Pt.slots] at X191 l191 y191 z191 st191 hQ191
                      subst l191 y191 z191
                      obtain ⟨rfl, N191q, eh191⟩ := hQ191
                      have N191 := Fr.app N97 N191q
                      refine own_go (B := T191.setTop (mkF m 323 #[.val (.long p1), .second, .val (.long p2), .second, .val (.long p3), .second, .val (.int p4), .val (.int p5), .val (.int p6), .val (.int cd), .val (.int rs), .val (.int mx), .val (.int my), .val (.int lo), .val (.int hi), .val (.int fz), .val (.int ft), .val (.int kk), .val (.int z88), .val (.int lo2), .val (.int hi2), .val (.int z90), .val (.int z91), .val (.int z92), .val (.ref b93), .val (.ref b95), .val (.int mm), .val (.int (0 : Int32))] [(.int (0 : Int32))])) (fun t k => st191.trans k) ?_
                      refine own_go (B := T191.setTop (mkF m 325 #[.val (.long p1), .second, .val (.long p2), .second, .val (.long p3), .second, .val (.int p4), .val (.int p5), .val (.int p6), .val (.int cd), .val (.int rs), .val (.int mx), .val (.int my), .val (.int lo), .val (.int hi), .val (.int fz), .val (.int ft), .val (.int kk), .val (.int z88), .val (.int lo2), .val (.int hi2), .val (.int z90), .val (.int z91), .val (.int z92), .val (.ref b93), .val (.ref b95), .val (.int mm), .val (.int (0 : Int32))] [(.int (0 : Int32)), (.int (0 : Int32))])) (fun t k => XS.iload X191.here hx rfl (hb hby at_323) rfl k) ?_
                      refine own_go (B := T191.setTop (mkF m 328 #[.val (.long p1), .second, .val (.long p2), .second, .val (.long p3), .second, .val (.int p4), .val (.int p5), .val (.int p6), .val (.int cd), .val (.int rs), .val (.int mx), .val (.int my), .val (.int lo), .val (.int hi), .val (.int fz), .val (.int ft), .val (.int kk), .val (.int z88), .val (.int lo2), .val (.int hi2), .val (.int z90), .val (.int z91), .val (.int z92), .val (.ref b93), .val (.ref b95), .val (.int mm), .val (.int (0 : Int32))] [])) (fun t k => XS.icmpNo X191.here hx rfl (hb hby at_325) rfl (teq (by decide : (0 : Int32) = (0 : Int32))).2 k) ?_
                      refine own_go (B := T191.setTop (mkF m 330 #[.val (.long p1), .second, .val (.long p2), .second, .val (.long p3), .second, .val (.int p4), .val (.int p5), .val (.int p6), .val (.int cd), .val (.int rs), .val (.int mx), .val (.int my), .val (.int lo), .val (.int hi), .val (.int fz), .val (.int ft), .val (.int kk), .val (.int z88), .val (.int lo2), .val (.int hi2), .val (.int z90), .val (.int z91), .val (.int z92), .val (.ref b93), .val (.ref b95), .val (.int mm), .val (.int (0 : Int32))] [(.ref b95)])) (fun t k => XS.aload X191.here hx rfl (hb hby at_328) rfl rfl k) ?_
                      refine own_go (B := T191.setTop (mkF m 332 #[.val (.long p1), .second, .val (.long p2), .second, .val (.long p3), .second, .val (.int p4), .val (.int p5), .val (.int p6), .val (.int cd), .val (.int rs), .val (.int mx), .val (.int my), .val (.int lo), .val (.int hi), .val (.int fz), .val (.int ft), .val (.int kk), .val (.int z88), .val (.int lo2), .val (.int hi2), .val (.int z90), .val (.int z91), .val (.int z92), .val (.ref b93), .val (.ref b95), .val (.int mm), .val (.int (0 : Int32))] [(.ref b93), (.ref b95)])) (fun t k => XS.aload X191.here hx rfl (hb hby at_330) rfl rfl k) ?_
                      obtain ⟨cq194, kq194, q194a, q194b, q194c⟩ := isOf hZ eh191 f190
                      obtain ⟨_, _, ⟨T194, L194, k194, n194⟩, -, X194, ⟨Lc194, hQ194, l194, y194, z194⟩, st194⟩ := X191.virtualBack hx (y := (⟨"com/example/helm_of_panes/helmofpanes/input/AbsoluteAxis", "equals", "(Ljava/lang/Object;)Z"⟩ : MethodName)) (z := (⟨"com/example/helm_of_panes/helmofpanes/input/AbsoluteAxis", "equals", "(Ljava/lang/Object;)Z"⟩ : MethodName)) hown (mvT hZ (hw _ (List.mem_of_getElem? (i := 35) rfl))) (mvT hZ (hw _ (List.mem_of_getElem? (i := 36) rfl))) (notFace_of_selects (args := #[]) (mvT hZ (hw _ (List.mem_of_getElem? (i := 38) rfl)))) (mvT hZ (hw _ (List.mem_of_getElem? (i := 38) rfl))) (mvT hZ (hw _ (List.mem_of_getElem? (i := 37) rfl))) (by decide) (backOf (W := 0) (own_rm_eqP l Z a0 hw [] b95 b93 z88 lo2 hi2 z90 z91 z92 cd lo hi fz ft rs (0 : Int32) T97.heap n0 O97 (Ne.symm (Nat.ne_of_lt (Nat.lt_of_lt_of_le lt_b93_95 (Nat.le_of_eq g95.symm)))) f192 Fn97_0 Fn97_1 Fn97_2 Fn97_3 Fn97_4 Fn97_5 f184 f185 f186 f187 f188 f189 (by simp [(Eq.symm hc271_113), (Ne.symm hc278_114)])) hZ (hw _ (List.mem_of_getElem? (i := 39) rfl)) (hw _ (List.mem_of_getElem? (i := 9) rfl)) (by decide) (by decide)) q194a q194c (g := (mkF m 332 #[.val (.long p1), .second, .val (.long p2), .second, .val (.long p3), .second, .val (.int p4), .val (.int p5), .val (.int p6), .val (.int cd), .val (.int rs), .val (.int mx), .val (.int my), .val (.int lo), .val (.int hi), .val (.int fz), .val (.int ft), .val (.int kk), .val (.int z88), .val (.int lo2), .val (.int hi2), .val (.int z90), .val (.int z91), .val (.int z92), .val (.ref b93), .val (.ref b95), .val (.int mm), .val (.int (0 : Int32))] [(.ref b93), (.ref b95)])) rfl (by rw [hml]; rfl) (Steps.refl _) (argsL := [(.ref b93)]) (rest := []) (lenOf own_pd_4 rfl) rfl (by show 2 * 0 + _ ≤ _; exact Nat.le_of_eq rfl) (hb hby at_332) (fun _ _ => ⟨rfl, eh191, (by decide : 2 + 0 ≤ _), (by decide : 12 + 0 ≤ _)⟩)
                      dsimp only [Pt.U, Pt.locs, Pt.cells, Pt.slots] at X194 l194 y194 z194 st194 hQ194
                      subst l194 y194 z194
                      obtain ⟨rfl, N194q, eh194⟩ := hQ194
                      have N194 := Fr.app N191 N194q
                      refine own_go (B := T194.setTop (mkF m 335 #[.val (.long p1), .second, .val (.long p2), .second, .val (.long p3), .second, .val (.int p4), .val (.int p5), .val (.int p6), .val (.int cd), .val (.int rs), .val (.int mx), .val (.int my), .val (.int lo), .val (.int hi), .val (.int fz), .val (.int ft), .val (.int kk), .val (.int z88), .val (.int lo2), .val (.int hi2), .val (.int z90), .val (.int z91), .val (.int z92), .val (.ref b93), .val (.ref b95), .val (.int mm), .val (.int (0 : Int32))] [(.int (0 : Int32))])) (fun t k => st194.trans k) ?_
                      refine own_go (B := T194.setTop (mkF m 337 #[.val (.long p1), .second, .val (.long p2), .second, .val (.long p3), .second, .val (.int p4), .val (.int p5), .val (.int p6), .val (.int cd), .val (.int rs), .val (.int mx), .val (.int my), .val (.int lo), .val (.int hi), .val (.int fz), .val (.int ft), .val (.int kk), .val (.int z88), .val (.int lo2), .val (.int hi2), .val (.int z90), .val (.int z91), .val (.int z92), .val (.ref b93), .val (.ref b95), .val (.int mm), .val (.int (0 : Int32))] [(.int (0 : Int32)), (.int (0 : Int32))])) (fun t k => XS.iload X194.here hx rfl (hb hby at_335) rfl k) ?_
                      refine own_go (B := T194.setTop (mkF m 340 #[.val (.long p1), .second, .val (.long p2), .second, .val (.long p3), .second, .val (.int p4), .val (.int p5), .val (.int p6), .val (.int cd), .val (.int rs), .val (.int mx), .val (.int my), .val (.int lo), .val (.int hi), .val (.int fz), .val (.int ft), .val (.int kk), .val (.int z88), .val (.int lo2), .val (.int hi2), .val (.int z90), .val (.int z91), .val (.int z92), .val (.ref b93), .val (.ref b95), .val (.int mm), .val (.int (0 : Int32))] [])) (fun t k => XS.icmpNo X194.here hx rfl (hb hby at_337) rfl (teq (by decide : (0 : Int32) = (0 : Int32))).2 k) ?_
                      refine own_go (B := T194.setTop (mkF m 341 #[.val (.long p1), .second, .val (.long p2), .second, .val (.long p3), .second, .val (.int p4), .val (.int p5), .val (.int p6), .val (.int cd), .val (.int rs), .val (.int mx), .val (.int my), .val (.int lo), .val (.int hi), .val (.int fz), .val (.int ft), .val (.int kk), .val (.int z88), .val (.int lo2), .val (.int hi2), .val (.int z90), .val (.int z91), .val (.int z92), .val (.ref b93), .val (.ref b95), .val (.int mm), .val (.int (0 : Int32))] [(.int (1 : Int32))])) (fun t k => XS.iconst X194.here hx rfl (hb hby at_340) k) ?_
                      refine own_go (B := T194.setTop (mkF m 345 #[.val (.long p1), .second, .val (.long p2), .second, .val (.long p3), .second, .val (.int p4), .val (.int p5), .val (.int p6), .val (.int cd), .val (.int rs), .val (.int mx), .val (.int my), .val (.int lo), .val (.int hi), .val (.int fz), .val (.int ft), .val (.int kk), .val (.int z88), .val (.int lo2), .val (.int hi2), .val (.int z90), .val (.int z91), .val (.int z92), .val (.ref b93), .val (.ref b95), .val (.int mm), .val (.int (0 : Int32))] [(.int (1 : Int32))])) (fun t k => XS.goto X194.here hx rfl (pc0 := 341) (pc' := 345) rfl (hb hby at_341) (by decide) (by decide) k) ?_
                      obtain ⟨fs, hr, hrun, hended, hW, hsame⟩ := X194.leave (v := some (.int (1 : Int32))) (fun h => by rw [Bd.returns] at h; cases h)
                      refine ⟨_, _, retN X194 hx (t := .boolean) Bd.returns (by simp) (hb hby at_345) hr, hK _ _ ⟨hrun, hended, _, _, rfl, ?_, ⟨_, rfl⟩, hW, hsame.mono (by decide) (by decide)⟩⟩
                      show own_Q_law Z p1 p2 p3 p4 p5 p6 w_cache cl h0 n0 _ T194.heap _
                      rw [eh194]
                      exact ⟨rfl, N194⟩
                  · refine own_go (B := T97.setTop (mkF m 313 #[.val (.long p1), .second, .val (.long p2), .second, .val (.long p3), .second, .val (.int p4), .val (.int p5), .val (.int p6), .val (.int cd), .val (.int rs), .val (.int mx), .val (.int my), .val (.int lo), .val (.int hi), .val (.int fz), .val (.int ft), .val (.int kk), .val (.int z88), .val (.int lo2), .val (.int hi2), .val (.int z90), .val (.int z91), .val (.int z92), .val (.ref b93), .val (.ref b95), .val (.int mm), .unset] [])) (fun t k => XS.icmpYes X97.here hx rfl (pc0 := 271) (pc' := 313) rfl (hb hby at_271) rfl (feq hc271_113).2 (by decide) (by decide) k) ?_
                    refine own_go (B := T97.setTop (mkF m 314 #[.val (.long p1), .second, .val (.long p2), .second, .val (.long p3), .second, .val (.int p4), .val (.int p5), .val (.int p6), .val (.int cd), .val (.int rs), .val (.int mx), .val (.int my), .val (.int lo), .val (.int hi), .val (.int fz), .val (.int ft), .val (.int kk), .val (.int z88), .val (.int lo2), .val (.int hi2), .val (.int z90), .val (.int z91), .val (.int z92), .val (.ref b93), .val (.ref b95), .val (.int mm), .unset] [(.int (0 : Int32))])) (fun t k => XS.iconst X97.here hx rfl (hb hby at_313) k) ?_
                    refine own_go (B := T97.setTop (mkF m 316 #[.val (.long p1), .second, .val (.long p2), .second, .val (.long p3), .second, .val (.int p4), .val (.int p5), .val (.int p6), .val (.int cd), .val (.int rs), .val (.int mx), .val (.int my), .val (.int lo), .val (.int hi), .val (.int fz), .val (.int ft), .val (.int kk), .val (.int z88), .val (.int lo2), .val (.int hi2), .val (.int z90), .val (.int z91), .val (.int z92), .val (.ref b93), .val (.ref b95), .val (.int mm), .val (.int (0 : Int32))] [])) (fun t k => XS.istore X97.here hx rfl (hb hby at_314) rfl (l' := #[.val (.long p1), .second, .val (.long p2), .second, .val (.long p3), .second, .val (.int p4), .val (.int p5), .val (.int p6), .val (.int cd), .val (.int rs), .val (.int mx), .val (.int my), .val (.int lo), .val (.int hi), .val (.int fz), .val (.int ft), .val (.int kk), .val (.int z88), .val (.int lo2), .val (.int hi2), .val (.int z90), .val (.int z91), .val (.int z92), .val (.ref b93), .val (.ref b95), .val (.int mm), .val (.int (0 : Int32))]) rfl k) ?_
                    refine own_go (B := T97.setTop (mkF m 318 #[.val (.long p1), .second, .val (.long p2), .second, .val (.long p3), .second, .val (.int p4), .val (.int p5), .val (.int p6), .val (.int cd), .val (.int rs), .val (.int mx), .val (.int my), .val (.int lo), .val (.int hi), .val (.int fz), .val (.int ft), .val (.int kk), .val (.int z88), .val (.int lo2), .val (.int hi2), .val (.int z90), .val (.int z91), .val (.int z92), .val (.ref b93), .val (.ref b95), .val (.int mm), .val (.int (0 : Int32))] [(.ref b93)])) (fun t k => XS.aload X97.here hx rfl (hb hby at_316) rfl rfl k) ?_
                    refine own_go (B := T97.setTop (mkF m 320 #[.val (.long p1), .second, .val (.long p2), .second, .val (.long p3), .second, .val (.int p4), .val (.int p5), .val (.int p6), .val (.int cd), .val (.int rs), .val (.int mx), .val (.int my), .val (.int lo), .val (.int hi), .val (.int fz), .val (.int ft), .val (.int kk), .val (.int z88), .val (.int lo2), .val (.int hi2), .val (.int z90), .val (.int z91), .val (.int z92), .val (.ref b93), .val (.ref b95), .val (.int mm), .val (.int (0 : Int32))] [(.ref b95), (.ref b93)])) (fun t k => XS.aload X97.here hx rfl (hb hby at_318) rfl rfl k) ?_
                    have f197 := ((Fn94_0.ext E95).keep Kc97 (ninS (Nat.ne_of_lt (Nat.lt_of_lt_of_le lt_b93_95 (Nat.le_of_eq g95.symm))) nin0))
                    have f198 := ((Fn94_1.ext E95).keep Kc97 (ninS (Nat.ne_of_lt (Nat.lt_of_lt_of_le lt_b93_95 (Nat.le_of_eq g95.symm))) nin0))
                    have f199 := ((Fn94_2.ext E95).keep Kc97 (ninS (Nat.ne_of_lt (Nat.lt_of_lt_of_le lt_b93_95 (Nat.le_of_eq g95.symm))) nin0))
                    have f200 := ((Fn94_3.ext E95).keep Kc97 (ninS (Nat.ne_of_lt (Nat.lt_of_lt_of_le lt_b93_95 (Nat.le_of_eq g95.symm))) nin0))
                    have f201 := ((Fn94_4.ext E95).keep Kc97 (ninS (Nat.ne_of_lt (Nat.lt_of_lt_of_le lt_b93_95 (Nat.le_of_eq g95.symm))) nin0))
                    have f202 := ((Fn94_5.ext E95).keep Kc97 (ninS (Nat.ne_of_lt (Nat.lt_of_lt_of_le lt_b93_95 (Nat.le_of_eq g95.symm))) nin0))
                    have f203 := (A95.keep Kc97)
                    have f205 := ((f96.ext E95).keep Kc97)
                    obtain ⟨cq204, kq204, q204a, q204b, q204c⟩ := isOf hZ (rfl : T97.heap = T97.heap) f205
                    obtain ⟨_, _, ⟨T204, L204, k204, n204⟩, -, X204, ⟨Lc204, hQ204, l204, y204, z204⟩, st204⟩ := X97.virtualBack hx (y := (⟨"com/example/helm_of_panes/helmofpanes/input/AbsoluteAxis", "equals", "(Ljava/lang/Object;)Z"⟩ : MethodName)) (z := (⟨"com/example/helm_of_panes/helmofpanes/input/AbsoluteAxis", "equals", "(Ljava/lang/Object;)Z"⟩ : MethodName)) hown (mvT hZ (hw _ (List.mem_of_getElem? (i := 35) rfl))) (mvT hZ (hw _ (List.mem_of_getElem? (i := 36) rfl))) (notFace_of_selects (args := #[]) (mvT hZ (hw _ (List.mem_of_getElem? (i := 38) rfl)))) (mvT hZ (hw _ (List.mem_of_getElem? (i := 38) rfl))) (mvT hZ (hw _ (List.mem_of_getElem? (i := 37) rfl))) (by decide) (backOf (W := 0) (own_rm_eqP l Z a0 hw [] b93 b95 cd lo hi fz ft rs z88 lo2 hi2 z90 z91 z92 (0 : Int32) T97.heap n0 O97 (Nat.ne_of_lt (Nat.lt_of_lt_of_le lt_b93_95 (Nat.le_of_eq g95.symm))) f203 f197 f198 f199 f200 f201 f202 Fn97_0 Fn97_1 Fn97_2 Fn97_3 Fn97_4 Fn97_5 (by simp [hc271_113])) hZ (hw _ (List.mem_of_getElem? (i := 39) rfl)) (hw _ (List.mem_of_getElem? (i := 9) rfl)) (by decide) (by decide)) q204a q204c (g := (mkF m 320 #[.val (.long p1), .second, .val (.long p2), .second, .val (.long p3), .second, .val (.int p4), .val (.int p5), .val (.int p6), .val (.int cd), .val (.int rs), .val (.int mx), .val (.int my), .val (.int lo), .val (.int hi), .val (.int fz), .val (.int ft), .val (.int kk), .val (.int z88), .val (.int lo2), .val (.int hi2), .val (.int z90), .val (.int z91), .val (.int z92), .val (.ref b93), .val (.ref b95), .val (.int mm), .val (.int (0 : Int32))] [(.ref b95), (.ref b93)])) rfl (by rw [hml]; rfl) (Steps.refl _) (argsL := [(.ref b95)]) (rest := []) (lenOf own_pd_4 rfl) rfl (by show 2 * 0 + _ ≤ _; exact Nat.le_of_eq rfl) (hb hby at_320) (fun _ _ => ⟨rfl, (rfl : T97.heap = T97.heap), (by decide : 2 + 0 ≤ _), (by decide : 12 + 0 ≤ _)⟩)
                    dsimp only [Pt.U, Pt.locs, Pt.cells, Pt.slots] at X204 l204 y204 z204 st204 hQ204
                    subst l204 y204 z204
                    obtain ⟨rfl, N204q, eh204⟩ := hQ204
                    have N204 := Fr.app N97 N204q
                    refine own_go (B := T204.setTop (mkF m 323 #[.val (.long p1), .second, .val (.long p2), .second, .val (.long p3), .second, .val (.int p4), .val (.int p5), .val (.int p6), .val (.int cd), .val (.int rs), .val (.int mx), .val (.int my), .val (.int lo), .val (.int hi), .val (.int fz), .val (.int ft), .val (.int kk), .val (.int z88), .val (.int lo2), .val (.int hi2), .val (.int z90), .val (.int z91), .val (.int z92), .val (.ref b93), .val (.ref b95), .val (.int mm), .val (.int (0 : Int32))] [(.int (0 : Int32))])) (fun t k => st204.trans k) ?_
                    refine own_go (B := T204.setTop (mkF m 325 #[.val (.long p1), .second, .val (.long p2), .second, .val (.long p3), .second, .val (.int p4), .val (.int p5), .val (.int p6), .val (.int cd), .val (.int rs), .val (.int mx), .val (.int my), .val (.int lo), .val (.int hi), .val (.int fz), .val (.int ft), .val (.int kk), .val (.int z88), .val (.int lo2), .val (.int hi2), .val (.int z90), .val (.int z91), .val (.int z92), .val (.ref b93), .val (.ref b95), .val (.int mm), .val (.int (0 : Int32))] [(.int (0 : Int32)), (.int (0 : Int32))])) (fun t k => XS.iload X204.here hx rfl (hb hby at_323) rfl k) ?_
                    refine own_go (B := T204.setTop (mkF m 328 #[.val (.long p1), .second, .val (.long p2), .second, .val (.long p3), .second, .val (.int p4), .val (.int p5), .val (.int p6), .val (.int cd), .val (.int rs), .val (.int mx), .val (.int my), .val (.int lo), .val (.int hi), .val (.int fz), .val (.int ft), .val (.int kk), .val (.int z88), .val (.int lo2), .val (.int hi2), .val (.int z90), .val (.int z91), .val (.int z92), .val (.ref b93), .val (.ref b95), .val (.int mm), .val (.int (0 : Int32))] [])) (fun t k => XS.icmpNo X204.here hx rfl (hb hby at_325) rfl (teq (by decide : (0 : Int32) = (0 : Int32))).2 k) ?_
                    refine own_go (B := T204.setTop (mkF m 330 #[.val (.long p1), .second, .val (.long p2), .second, .val (.long p3), .second, .val (.int p4), .val (.int p5), .val (.int p6), .val (.int cd), .val (.int rs), .val (.int mx), .val (.int my), .val (.int lo), .val (.int hi), .val (.int fz), .val (.int ft), .val (.int kk), .val (.int z88), .val (.int lo2), .val (.int hi2), .val (.int z90), .val (.int z91), .val (.int z92), .val (.ref b93), .val (.ref b95), .val (.int mm), .val (.int (0 : Int32))] [(.ref b95)])) (fun t k => XS.aload X204.here hx rfl (hb hby at_328) rfl rfl k) ?_
                    refine own_go (B := T204.setTop (mkF m 332 #[.val (.long p1), .second, .val (.long p2), .second, .val (.long p3), .second, .val (.int p4), .val (.int p5), .val (.int p6), .val (.int cd), .val (.int rs), .val (.int mx), .val (.int my), .val (.int lo), .val (.int hi), .val (.int fz), .val (.int ft), .val (.int kk), .val (.int z88), .val (.int lo2), .val (.int hi2), .val (.int z90), .val (.int z91), .val (.int z92), .val (.ref b93), .val (.ref b95), .val (.int mm), .val (.int (0 : Int32))] [(.ref b93), (.ref b95)])) (fun t k => XS.aload X204.here hx rfl (hb hby at_330) rfl rfl k) ?_
                    obtain ⟨cq207, kq207, q207a, q207b, q207c⟩ := isOf hZ eh204 f203
                    obtain ⟨_, _, ⟨T207, L207, k207, n207⟩, -, X207, ⟨Lc207, hQ207, l207, y207, z207⟩, st207⟩ := X204.virtualBack hx (y := (⟨"com/example/helm_of_panes/helmofpanes/input/AbsoluteAxis", "equals", "(Ljava/lang/Object;)Z"⟩ : MethodName)) (z := (⟨"com/example/helm_of_panes/helmofpanes/input/AbsoluteAxis", "equals", "(Ljava/lang/Object;)Z"⟩ : MethodName)) hown (mvT hZ (hw _ (List.mem_of_getElem? (i := 35) rfl))) (mvT hZ (hw _ (List.mem_of_getElem? (i := 36) rfl))) (notFace_of_selects (args := #[]) (mvT hZ (hw _ (List.mem_of_getElem? (i := 38) rfl)))) (mvT hZ (hw _ (List.mem_of_getElem? (i := 38) rfl))) (mvT hZ (hw _ (List.mem_of_getElem? (i := 37) rfl))) (by decide) (backOf (W := 0) (own_rm_eqP l Z a0 hw [] b95 b93 z88 lo2 hi2 z90 z91 z92 cd lo hi fz ft rs (0 : Int32) T97.heap n0 O97 (Ne.symm (Nat.ne_of_lt (Nat.lt_of_lt_of_le lt_b93_95 (Nat.le_of_eq g95.symm)))) f205 Fn97_0 Fn97_1 Fn97_2 Fn97_3 Fn97_4 Fn97_5 f197 f198 f199 f200 f201 f202 (by simp [(Ne.symm hc271_113)])) hZ (hw _ (List.mem_of_getElem? (i := 39) rfl)) (hw _ (List.mem_of_getElem? (i := 9) rfl)) (by decide) (by decide)) q207a q207c (g := (mkF m 332 #[.val (.long p1), .second, .val (.long p2), .second, .val (.long p3), .second, .val (.int p4), .val (.int p5), .val (.int p6), .val (.int cd), .val (.int rs), .val (.int mx), .val (.int my), .val (.int lo), .val (.int hi), .val (.int fz), .val (.int ft), .val (.int kk), .val (.int z88), .val (.int lo2), .val (.int hi2), .val (.int z90), .val (.int z91), .val (.int z92), .val (.ref b93), .val (.ref b95), .val (.int mm), .val (.int (0 : Int32))] [(.ref b93), (.ref b95)])) rfl (by rw [hml]; rfl) (Steps.refl _) (argsL := [(.ref b93)]) (rest := []) (lenOf own_pd_4 rfl) rfl (by show 2 * 0 + _ ≤ _; exact Nat.le_of_eq rfl) (hb hby at_332) (fun _ _ => ⟨rfl, eh204, (by decide : 2 + 0 ≤ _), (by decide : 12 + 0 ≤ _)⟩)
                    dsimp only [Pt.U, Pt.locs, Pt.cells, Pt.slots] at X207 l207 y207 z207 st207 hQ207
                    subst l207 y207 z207
                    obtain ⟨rfl, N207q, eh207⟩ := hQ207
                    have N207 := Fr.app N204 N207q
                    refine own_go (B := T207.setTop (mkF m 335 #[.val (.long p1), .second, .val (.long p2), .second, .val (.long p3), .second, .val (.int p4), .val (.int p5), .val (.int p6), .val (.int cd), .val (.int rs), .val (.int mx), .val (.int my), .val (.int lo), .val (.int hi), .val (.int fz), .val (.int ft), .val (.int kk), .val (.int z88), .val (.int lo2), .val (.int hi2), .val (.int z90), .val (.int z91), .val (.int z92), .val (.ref b93), .val (.ref b95), .val (.int mm), .val (.int (0 : Int32))] [(.int (0 : Int32))])) (fun t k => st207.trans k) ?_
                    refine own_go (B := T207.setTop (mkF m 337 #[.val (.long p1), .second, .val (.long p2), .second, .val (.long p3), .second, .val (.int p4), .val (.int p5), .val (.int p6), .val (.int cd), .val (.int rs), .val (.int mx), .val (.int my), .val (.int lo), .val (.int hi), .val (.int fz), .val (.int ft), .val (.int kk), .val (.int z88), .val (.int lo2), .val (.int hi2), .val (.int z90), .val (.int z91), .val (.int z92), .val (.ref b93), .val (.ref b95), .val (.int mm), .val (.int (0 : Int32))] [(.int (0 : Int32)), (.int (0 : Int32))])) (fun t k => XS.iload X207.here hx rfl (hb hby at_335) rfl k) ?_
                    refine own_go (B := T207.setTop (mkF m 340 #[.val (.long p1), .second, .val (.long p2), .second, .val (.long p3), .second, .val (.int p4), .val (.int p5), .val (.int p6), .val (.int cd), .val (.int rs), .val (.int mx), .val (.int my), .val (.int lo), .val (.int hi), .val (.int fz), .val (.int ft), .val (.int kk), .val (.int z88), .val (.int lo2), .val (.int hi2), .val (.int z90), .val (.int z91), .val (.int z92), .val (.ref b93), .val (.ref b95), .val (.int mm), .val (.int (0 : Int32))] [])) (fun t k => XS.icmpNo X207.here hx rfl (hb hby at_337) rfl (teq (by decide : (0 : Int32) = (0 : Int32))).2 k) ?_
                    refine own_go (B := T207.setTop (mkF m 341 #[.val (.long p1), .second, .val (.long p2), .second, .val (.long p3), .second, .val (.int p4), .val (.int p5), .val (.int p6), .val (.int cd), .val (.int rs), .val (.int mx), .val (.int my), .val (.int lo), .val (.int hi), .val (.int fz), .val (.int ft), .val (.int kk), .val (.int z88), .val (.int lo2), .val (.int hi2), .val (.int z90), .val (.int z91), .val (.int z92), .val (.ref b93), .val (.ref b95), .val (.int mm), .val (.int (0 : Int32))] [(.int (1 : Int32))])) (fun t k => XS.iconst X207.here hx rfl (hb hby at_340) k) ?_
                    refine own_go (B := T207.setTop (mkF m 345 #[.val (.long p1), .second, .val (.long p2), .second, .val (.long p3), .second, .val (.int p4), .val (.int p5), .val (.int p6), .val (.int cd), .val (.int rs), .val (.int mx), .val (.int my), .val (.int lo), .val (.int hi), .val (.int fz), .val (.int ft), .val (.int kk), .val (.int z88), .val (.int lo2), .val (.int hi2), .val (.int z90), .val (.int z91), .val (.int z92), .val (.ref b93), .val (.ref b95), .val (.int mm), .val (.int (0 : Int32))] [(.int (1 : Int32))])) (fun t k => XS.goto X207.here hx rfl (pc0 := 341) (pc' := 345) rfl (hb hby at_341) (by decide) (by decide) k) ?_
                    obtain ⟨fs, hr, hrun, hended, hW, hsame⟩ := X207.leave (v := some (.int (1 : Int32))) (fun h => by rw [Bd.returns] at h; cases h)
                    refine ⟨_, _, retN X207 hx (t := .boolean) Bd.returns (by simp) (hb hby at_345) hr, hK _ _ ⟨hrun, hended, _, _, rfl, ?_, ⟨_, rfl⟩, hW, hsame.mono (by decide) (by decide)⟩⟩
                    show own_Q_law Z p1 p2 p3 p4 p5 p6 w_cache cl h0 n0 _ T207.heap _
                    rw [eh207]
                    exact ⟨rfl, N207⟩
          by_cases hc147_210 : kk = (5 : Int32)
          · refine own_go (B := T89.setTop (mkF m 150 #[.val (.long p1), .second, .val (.long p2), .second, .val (.long p3), .second, .val (.int p4), .val (.int p5), .val (.int p6), .val (.int cd), .val (.int rs), .val (.int mx), .val (.int my), .val (.int lo), .val (.int hi), .val (.int fz), .val (.int ft), .val (.int kk), .val (.int z88), .val (.int lo2), .val (.int hi2), .val (.int z90), .val (.int z91), .unset, .unset, .unset, .unset, .unset] [])) (fun t k => XS.icmpNo X89.here hx rfl (hb hby at_147) rfl (teq hc147_210).2 k) ?_
            refine own_go (B := T89.setTop (mkF m 152 #[.val (.long p1), .second, .val (.long p2), .second, .val (.long p3), .second, .val (.int p4), .val (.int p5), .val (.int p6), .val (.int cd), .val (.int rs), .val (.int mx), .val (.int my), .val (.int lo), .val (.int hi), .val (.int fz), .val (.int ft), .val (.int kk), .val (.int z88), .val (.int lo2), .val (.int hi2), .val (.int z90), .val (.int z91), .unset, .unset, .unset, .unset, .unset] [(.int p5)])) (fun t k => XS.iload X89.here hx rfl (hb hby at_150) rfl k) ?_
            refine own_go (B := T89.setTop (mkF m 157 #[.val (.long p1), .second, .val (.long p2), .second, .val (.long p3), .second, .val (.int p4), .val (.int p5), .val (.int p6), .val (.int cd), .val (.int rs), .val (.int mx), .val (.int my), .val (.int lo), .val (.int hi), .val (.int fz), .val (.int ft), .val (.int kk), .val (.int z88), .val (.int lo2), .val (.int hi2), .val (.int z90), .val (.int z91), .unset, .unset, .unset, .unset, .unset] [(.int p5)])) (fun t k => XS.goto X89.here hx rfl (pc0 := 152) (pc' := 157) rfl (hb hby at_152) (by decide) (by decide) k) ?_
            exact J92 p5
          · refine own_go (B := T89.setTop (mkF m 155 #[.val (.long p1), .second, .val (.long p2), .second, .val (.long p3), .second, .val (.int p4), .val (.int p5), .val (.int p6), .val (.int cd), .val (.int rs), .val (.int mx), .val (.int my), .val (.int lo), .val (.int hi), .val (.int fz), .val (.int ft), .val (.int kk), .val (.int z88), .val (.int lo2), .val (.int hi2), .val (.int z90), .val (.int z91), .unset, .unset, .unset, .unset, .unset] [])) (fun t k => XS.icmpYes X89.here hx rfl (pc0 := 147) (pc' := 155) rfl (hb hby at_147) rfl (feq hc147_210).2 (by decide) (by decide) k) ?_
            refine own_go (B := T89.setTop (mkF m 157 #[.val (.long p1), .second, .val (.long p2), .second, .val (.long p3), .second, .val (.int p4), .val (.int p5), .val (.int p6), .val (.int cd), .val (.int rs), .val (.int mx), .val (.int my), .val (.int lo), .val (.int hi), .val (.int fz), .val (.int ft), .val (.int kk), .val (.int z88), .val (.int lo2), .val (.int hi2), .val (.int z90), .val (.int z91), .unset, .unset, .unset, .unset, .unset] [(.int rs)])) (fun t k => XS.iload X89.here hx rfl (hb hby at_155) rfl k) ?_
            exact J92 rs
        by_cases hc132_211 : kk = (4 : Int32)
        · refine own_go (B := T89.setTop (mkF m 135 #[.val (.long p1), .second, .val (.long p2), .second, .val (.long p3), .second, .val (.int p4), .val (.int p5), .val (.int p6), .val (.int cd), .val (.int rs), .val (.int mx), .val (.int my), .val (.int lo), .val (.int hi), .val (.int fz), .val (.int ft), .val (.int kk), .val (.int z88), .val (.int lo2), .val (.int hi2), .val (.int z90), .unset, .unset, .unset, .unset, .unset, .unset] [])) (fun t k => XS.icmpNo X89.here hx rfl (hb hby at_132) rfl (teq hc132_211).2 k) ?_
          refine own_go (B := T89.setTop (mkF m 137 #[.val (.long p1), .second, .val (.long p2), .second, .val (.long p3), .second, .val (.int p4), .val (.int p5), .val (.int p6), .val (.int cd), .val (.int rs), .val (.int mx), .val (.int my), .val (.int lo), .val (.int hi), .val (.int fz), .val (.int ft), .val (.int kk), .val (.int z88), .val (.int lo2), .val (.int hi2), .val (.int z90), .unset, .unset, .unset, .unset, .unset, .unset] [(.int p5)])) (fun t k => XS.iload X89.here hx rfl (hb hby at_135) rfl k) ?_
          refine own_go (B := T89.setTop (mkF m 142 #[.val (.long p1), .second, .val (.long p2), .second, .val (.long p3), .second, .val (.int p4), .val (.int p5), .val (.int p6), .val (.int cd), .val (.int rs), .val (.int mx), .val (.int my), .val (.int lo), .val (.int hi), .val (.int fz), .val (.int ft), .val (.int kk), .val (.int z88), .val (.int lo2), .val (.int hi2), .val (.int z90), .unset, .unset, .unset, .unset, .unset, .unset] [(.int p5)])) (fun t k => XS.goto X89.here hx rfl (pc0 := 137) (pc' := 142) rfl (hb hby at_137) (by decide) (by decide) k) ?_
          exact J91 p5
        · refine own_go (B := T89.setTop (mkF m 140 #[.val (.long p1), .second, .val (.long p2), .second, .val (.long p3), .second, .val (.int p4), .val (.int p5), .val (.int p6), .val (.int cd), .val (.int rs), .val (.int mx), .val (.int my), .val (.int lo), .val (.int hi), .val (.int fz), .val (.int ft), .val (.int kk), .val (.int z88), .val (.int lo2), .val (.int hi2), .val (.int z90), .unset, .unset, .unset, .unset, .unset, .unset] [])) (fun t k => XS.icmpYes X89.here hx rfl (pc0 := 132) (pc' := 140) rfl (hb hby at_132) rfl (feq hc132_211).2 (by decide) (by decide) k) ?_
          refine own_go (B := T89.setTop (mkF m 142 #[.val (.long p1), .second, .val (.long p2), .second, .val (.long p3), .second, .val (.int p4), .val (.int p5), .val (.int p6), .val (.int cd), .val (.int rs), .val (.int mx), .val (.int my), .val (.int lo), .val (.int hi), .val (.int fz), .val (.int ft), .val (.int kk), .val (.int z88), .val (.int lo2), .val (.int hi2), .val (.int z90), .unset, .unset, .unset, .unset, .unset, .unset] [(.int ft)])) (fun t k => XS.iload X89.here hx rfl (hb hby at_140) rfl k) ?_
          exact J91 ft
      by_cases hc117_212 : kk = (3 : Int32)
      · refine own_go (B := T89.setTop (mkF m 120 #[.val (.long p1), .second, .val (.long p2), .second, .val (.long p3), .second, .val (.int p4), .val (.int p5), .val (.int p6), .val (.int cd), .val (.int rs), .val (.int mx), .val (.int my), .val (.int lo), .val (.int hi), .val (.int fz), .val (.int ft), .val (.int kk), .val (.int z88), .val (.int lo2), .val (.int hi2), .unset, .unset, .unset, .unset, .unset, .unset, .unset] [])) (fun t k => XS.icmpNo X89.here hx rfl (hb hby at_117) rfl (teq hc117_212).2 k) ?_
        refine own_go (B := T89.setTop (mkF m 122 #[.val (.long p1), .second, .val (.long p2), .second, .val (.long p3), .second, .val (.int p4), .val (.int p5), .val (.int p6), .val (.int cd), .val (.int rs), .val (.int mx), .val (.int my), .val (.int lo), .val (.int hi), .val (.int fz), .val (.int ft), .val (.int kk), .val (.int z88), .val (.int lo2), .val (.int hi2), .unset, .unset, .unset, .unset, .unset, .unset, .unset] [(.int p5)])) (fun t k => XS.iload X89.here hx rfl (hb hby at_120) rfl k) ?_
        refine own_go (B := T89.setTop (mkF m 127 #[.val (.long p1), .second, .val (.long p2), .second, .val (.long p3), .second, .val (.int p4), .val (.int p5), .val (.int p6), .val (.int cd), .val (.int rs), .val (.int mx), .val (.int my), .val (.int lo), .val (.int hi), .val (.int fz), .val (.int ft), .val (.int kk), .val (.int z88), .val (.int lo2), .val (.int hi2), .unset, .unset, .unset, .unset, .unset, .unset, .unset] [(.int p5)])) (fun t k => XS.goto X89.here hx rfl (pc0 := 122) (pc' := 127) rfl (hb hby at_122) (by decide) (by decide) k) ?_
        exact J90 p5
      · refine own_go (B := T89.setTop (mkF m 125 #[.val (.long p1), .second, .val (.long p2), .second, .val (.long p3), .second, .val (.int p4), .val (.int p5), .val (.int p6), .val (.int cd), .val (.int rs), .val (.int mx), .val (.int my), .val (.int lo), .val (.int hi), .val (.int fz), .val (.int ft), .val (.int kk), .val (.int z88), .val (.int lo2), .val (.int hi2), .unset, .unset, .unset, .unset, .unset, .unset, .unset] [])) (fun t k => XS.icmpYes X89.here hx rfl (pc0 := 117) (pc' := 125) rfl (hb hby at_117) rfl (feq hc117_212).2 (by decide) (by decide) k) ?_
        refine own_go (B := T89.setTop (mkF m 127 #[.val (.long p1), .second, .val (.long p2), .second, .val (.long p3), .second, .val (.int p4), .val (.int p5), .val (.int p6), .val (.int cd), .val (.int rs), .val (.int mx), .val (.int my), .val (.int lo), .val (.int hi), .val (.int fz), .val (.int ft), .val (.int kk), .val (.int z88), .val (.int lo2), .val (.int hi2), .unset, .unset, .unset, .unset, .unset, .unset, .unset] [(.int fz)])) (fun t k => XS.iload X89.here hx rfl (hb hby at_125) rfl k) ?_
        exact J90 fz
    by_cases hc77_213 : kk = (1 : Int32)
    · refine own_go (B := T87.setTop (mkF m 80 #[.val (.long p1), .second, .val (.long p2), .second, .val (.long p3), .second, .val (.int p4), .val (.int p5), .val (.int p6), .val (.int cd), .val (.int rs), .val (.int mx), .val (.int my), .val (.int lo), .val (.int hi), .val (.int fz), .val (.int ft), .val (.int kk), .val (.int z88), .unset, .unset, .unset, .unset, .unset, .unset, .unset, .unset, .unset] [])) (fun t k => XS.icmpNo X87.here hx rfl (hb hby at_77) rfl (teq hc77_213).2 k) ?_
      refine own_go (B := T87.setTop (mkF m 82 #[.val (.long p1), .second, .val (.long p2), .second, .val (.long p3), .second, .val (.int p4), .val (.int p5), .val (.int p6), .val (.int cd), .val (.int rs), .val (.int mx), .val (.int my), .val (.int lo), .val (.int hi), .val (.int fz), .val (.int ft), .val (.int kk), .val (.int z88), .unset, .unset, .unset, .unset, .unset, .unset, .unset, .unset, .unset] [(.int p5)])) (fun t k => XS.iload X87.here hx rfl (hb hby at_80) rfl k) ?_
      refine own_go (B := T87.setTop (mkF m 84 #[.val (.long p1), .second, .val (.long p2), .second, .val (.long p3), .second, .val (.int p4), .val (.int p5), .val (.int p6), .val (.int cd), .val (.int rs), .val (.int mx), .val (.int my), .val (.int lo), .val (.int hi), .val (.int fz), .val (.int ft), .val (.int kk), .val (.int z88), .unset, .unset, .unset, .unset, .unset, .unset, .unset, .unset, .unset] [(.int hi), (.int p5)])) (fun t k => XS.iload X87.here hx rfl (hb hby at_82) rfl k) ?_
      obtain ⟨_, _, ⟨T214, L214, k214, n214⟩, -, X214, ⟨Lc214, hQ214, l214, y214, z214⟩, st214⟩ := Jvm.LawKit.callS X87 hx (y := (⟨"java/lang/Math", "min", "(II)I"⟩ : MethodName)) hown (mvT hZ (hw _ (List.mem_of_getElem? (i := 0) rfl))) (mvT hZ (hw _ (List.mem_of_getElem? (i := 1) rfl))) (mvT hZ (hw _ (List.mem_of_getElem? (i := 2) rfl))) (mvT hZ (hw _ (List.mem_of_getElem? (i := 3) rfl))) (by decide) (backOf (W := 0) (own_rm_mmin l Z a0 hw [] p5 hi h0 n0 O0) hZ (hw _ (List.mem_of_getElem? (i := 3) rfl)) (hw _ (List.mem_of_getElem? (i := 2) rfl)) (by decide) (by decide)) (g := (mkF m 84 #[.val (.long p1), .second, .val (.long p2), .second, .val (.long p3), .second, .val (.int p4), .val (.int p5), .val (.int p6), .val (.int cd), .val (.int rs), .val (.int mx), .val (.int my), .val (.int lo), .val (.int hi), .val (.int fz), .val (.int ft), .val (.int kk), .val (.int z88), .unset, .unset, .unset, .unset, .unset, .unset, .unset, .unset, .unset] [(.int hi), (.int p5)])) rfl (by rw [hml]; rfl) (argsL := [(.int p5), (.int hi)]) (rest := []) (lenOf own_pd_2 rfl) rfl (by show 2 * 0 + _ ≤ _; exact Nat.le_of_eq rfl) (hb hby at_84) (fun _ _ => ⟨rfl, eh87, (by decide : 0 + 0 ≤ _), (by decide : 0 + 0 ≤ _)⟩)
      dsimp only [Pt.U, Pt.locs, Pt.cells, Pt.slots] at X214 l214 y214 z214 st214 hQ214
      subst l214 y214 z214
      obtain ⟨rfl, N214q, eh214⟩ := hQ214
      have N214 := Fr.app N87 N214q
      refine own_go (B := T214.setTop (mkF m 87 #[.val (.long p1), .second, .val (.long p2), .second, .val (.long p3), .second, .val (.int p4), .val (.int p5), .val (.int p6), .val (.int cd), .val (.int rs), .val (.int mx), .val (.int my), .val (.int lo), .val (.int hi), .val (.int fz), .val (.int ft), .val (.int kk), .val (.int z88), .unset, .unset, .unset, .unset, .unset, .unset, .unset, .unset, .unset] [(.int (own_min p5 hi))])) (fun t k => st214 _ k) ?_
      refine own_go (B := T214.setTop (mkF m 92 #[.val (.long p1), .second, .val (.long p2), .second, .val (.long p3), .second, .val (.int p4), .val (.int p5), .val (.int p6), .val (.int cd), .val (.int rs), .val (.int mx), .val (.int my), .val (.int lo), .val (.int hi), .val (.int fz), .val (.int ft), .val (.int kk), .val (.int z88), .unset, .unset, .unset, .unset, .unset, .unset, .unset, .unset, .unset] [(.int (own_min p5 hi))])) (fun t k => XS.goto X214.here hx rfl (pc0 := 87) (pc' := 92) rfl (hb hby at_87) (by decide) (by decide) k) ?_
      refine own_go (B := T214.setTop (mkF m 94 #[.val (.long p1), .second, .val (.long p2), .second, .val (.long p3), .second, .val (.int p4), .val (.int p5), .val (.int p6), .val (.int cd), .val (.int rs), .val (.int mx), .val (.int my), .val (.int lo), .val (.int hi), .val (.int fz), .val (.int ft), .val (.int kk), .val (.int z88), .val (.int (own_min p5 hi)), .unset, .unset, .unset, .unset, .unset, .unset, .unset, .unset] [])) (fun t k => XS.istore X214.here hx rfl (hb hby at_92) rfl (l' := #[.val (.long p1), .second, .val (.long p2), .second, .val (.long p3), .second, .val (.int p4), .val (.int p5), .val (.int p6), .val (.int cd), .val (.int rs), .val (.int mx), .val (.int my), .val (.int lo), .val (.int hi), .val (.int fz), .val (.int ft), .val (.int kk), .val (.int z88), .val (.int (own_min p5 hi)), .unset, .unset, .unset, .unset, .unset, .unset, .unset, .unset]) rfl k) ?_
      refine own_go (B := T214.setTop (mkF m 96 #[.val (.long p1), .second, .val (.long p2), .second, .val (.long p3), .second, .val (.int p4), .val (.int p5), .val (.int p6), .val (.int cd), .val (.int rs), .val (.int mx), .val (.int my), .val (.int lo), .val (.int hi), .val (.int fz), .val (.int ft), .val (.int kk), .val (.int z88), .val (.int (own_min p5 hi)), .unset, .unset, .unset, .unset, .unset, .unset, .unset, .unset] [(.int kk)])) (fun t k => XS.iload X214.here hx rfl (hb hby at_94) rfl k) ?_
      refine own_go (B := T214.setTop (mkF m 97 #[.val (.long p1), .second, .val (.long p2), .second, .val (.long p3), .second, .val (.int p4), .val (.int p5), .val (.int p6), .val (.int cd), .val (.int rs), .val (.int mx), .val (.int my), .val (.int lo), .val (.int hi), .val (.int fz), .val (.int ft), .val (.int kk), .val (.int z88), .val (.int (own_min p5 hi)), .unset, .unset, .unset, .unset, .unset, .unset, .unset, .unset] [(.int (2 : Int32)), (.int kk)])) (fun t k => XS.iconst X214.here hx rfl (hb hby at_96) k) ?_
      refine own_go (B := T214.setTop (mkF m 110 #[.val (.long p1), .second, .val (.long p2), .second, .val (.long p3), .second, .val (.int p4), .val (.int p5), .val (.int p6), .val (.int cd), .val (.int rs), .val (.int mx), .val (.int my), .val (.int lo), .val (.int hi), .val (.int fz), .val (.int ft), .val (.int kk), .val (.int z88), .val (.int (own_min p5 hi)), .unset, .unset, .unset, .unset, .unset, .unset, .unset, .unset] [])) (fun t k => XS.icmpYes X214.here hx rfl (pc0 := 97) (pc' := 110) rfl (hb hby at_97) rfl (feq (by rw [hc77_213]; decide)).2 (by decide) (by decide) k) ?_
      refine own_go (B := T214.setTop (mkF m 112 #[.val (.long p1), .second, .val (.long p2), .second, .val (.long p3), .second, .val (.int p4), .val (.int p5), .val (.int p6), .val (.int cd), .val (.int rs), .val (.int mx), .val (.int my), .val (.int lo), .val (.int hi), .val (.int fz), .val (.int ft), .val (.int kk), .val (.int z88), .val (.int (own_min p5 hi)), .unset, .unset, .unset, .unset, .unset, .unset, .unset, .unset] [(.int hi)])) (fun t k => XS.iload X214.here hx rfl (hb hby at_110) rfl k) ?_
      refine own_go (B := T214.setTop (mkF m 114 #[.val (.long p1), .second, .val (.long p2), .second, .val (.long p3), .second, .val (.int p4), .val (.int p5), .val (.int p6), .val (.int cd), .val (.int rs), .val (.int mx), .val (.int my), .val (.int lo), .val (.int hi), .val (.int fz), .val (.int ft), .val (.int kk), .val (.int z88), .val (.int (own_min p5 hi)), .val (.int hi), .unset, .unset, .unset, .unset, .unset, .unset, .unset] [])) (fun t k => XS.istore X214.here hx rfl (hb hby at_112) rfl (l' := #[.val (.long p1), .second, .val (.long p2), .second, .val (.long p3), .second, .val (.int p4), .val (.int p5), .val (.int p6), .val (.int cd), .val (.int rs), .val (.int mx), .val (.int my), .val (.int lo), .val (.int hi), .val (.int fz), .val (.int ft), .val (.int kk), .val (.int z88), .val (.int (own_min p5 hi)), .val (.int hi), .unset, .unset, .unset, .unset, .unset, .unset, .unset]) rfl k) ?_
      exact J89 _ _ X214 N214 eh214 (own_min p5 hi) hi (own_min_r p5 hi)
    · refine own_go (B := T87.setTop (mkF m 90 #[.val (.long p1), .second, .val (.long p2), .second, .val (.long p3), .second, .val (.int p4), .val (.int p5), .val (.int p6), .val (.int cd), .val (.int rs), .val (.int mx), .val (.int my), .val (.int lo), .val (.int hi), .val (.int fz), .val (.int ft), .val (.int kk), .val (.int z88), .unset, .unset, .unset, .unset, .unset, .unset, .unset, .unset, .unset] [])) (fun t k => XS.icmpYes X87.here hx rfl (pc0 := 77) (pc' := 90) rfl (hb hby at_77) rfl (feq hc77_213).2 (by decide) (by decide) k) ?_
      refine own_go (B := T87.setTop (mkF m 92 #[.val (.long p1), .second, .val (.long p2), .second, .val (.long p3), .second, .val (.int p4), .val (.int p5), .val (.int p6), .val (.int cd), .val (.int rs), .val (.int mx), .val (.int my), .val (.int lo), .val (.int hi), .val (.int fz), .val (.int ft), .val (.int kk), .val (.int z88), .unset, .unset, .unset, .unset, .unset, .unset, .unset, .unset, .unset] [(.int lo)])) (fun t k => XS.iload X87.here hx rfl (hb hby at_90) rfl k) ?_
      refine own_go (B := T87.setTop (mkF m 94 #[.val (.long p1), .second, .val (.long p2), .second, .val (.long p3), .second, .val (.int p4), .val (.int p5), .val (.int p6), .val (.int cd), .val (.int rs), .val (.int mx), .val (.int my), .val (.int lo), .val (.int hi), .val (.int fz), .val (.int ft), .val (.int kk), .val (.int z88), .val (.int lo), .unset, .unset, .unset, .unset, .unset, .unset, .unset, .unset] [])) (fun t k => XS.istore X87.here hx rfl (hb hby at_92) rfl (l' := #[.val (.long p1), .second, .val (.long p2), .second, .val (.long p3), .second, .val (.int p4), .val (.int p5), .val (.int p6), .val (.int cd), .val (.int rs), .val (.int mx), .val (.int my), .val (.int lo), .val (.int hi), .val (.int fz), .val (.int ft), .val (.int kk), .val (.int z88), .val (.int lo), .unset, .unset, .unset, .unset, .unset, .unset, .unset, .unset]) rfl k) ?_
      refine own_go (B := T87.setTop (mkF m 96 #[.val (.long p1), .second, .val (.long p2), .second, .val (.long p3), .second, .val (.int p4), .val (.int p5), .val (.int p6), .val (.int cd), .val (.int rs), .val (.int mx), .val (.int my), .val (.int lo), .val (.int hi), .val (.int fz), .val (.int ft), .val (.int kk), .val (.int z88), .val (.int lo), .unset, .unset, .unset, .unset, .unset, .unset, .unset, .unset] [(.int kk)])) (fun t k => XS.iload X87.here hx rfl (hb hby at_94) rfl k) ?_
      refine own_go (B := T87.setTop (mkF m 97 #[.val (.long p1), .second, .val (.long p2), .second, .val (.long p3), .second, .val (.int p4), .val (.int p5), .val (.int p6), .val (.int cd), .val (.int rs), .val (.int mx), .val (.int my), .val (.int lo), .val (.int hi), .val (.int fz), .val (.int ft), .val (.int kk), .val (.int z88), .val (.int lo), .unset, .unset, .unset, .unset, .unset, .unset, .unset, .unset] [(.int (2 : Int32)), (.int kk)])) (fun t k => XS.iconst X87.here hx rfl (hb hby at_96) k) ?_
      by_cases hc97_216 : kk = (2 : Int32)
      · refine own_go (B := T87.setTop (mkF m 100 #[.val (.long p1), .second, .val (.long p2), .second, .val (.long p3), .second, .val (.int p4), .val (.int p5), .val (.int p6), .val (.int cd), .val (.int rs), .val (.int mx), .val (.int my), .val (.int lo), .val (.int hi), .val (.int fz), .val (.int ft), .val (.int kk), .val (.int z88), .val (.int lo), .unset, .unset, .unset, .unset, .unset, .unset, .unset, .unset] [])) (fun t k => XS.icmpNo X87.here hx rfl (hb hby at_97) rfl (teq hc97_216).2 k) ?_
        refine own_go (B := T87.setTop (mkF m 102 #[.val (.long p1), .second, .val (.long p2), .second, .val (.long p3), .second, .val (.int p4), .val (.int p5), .val (.int p6), .val (.int cd), .val (.int rs), .val (.int mx), .val (.int my), .val (.int lo), .val (.int hi), .val (.int fz), .val (.int ft), .val (.int kk), .val (.int z88), .val (.int lo), .unset, .unset, .unset, .unset, .unset, .unset, .unset, .unset] [(.int p5)])) (fun t k => XS.iload X87.here hx rfl (hb hby at_100) rfl k) ?_
        refine own_go (B := T87.setTop (mkF m 104 #[.val (.long p1), .second, .val (.long p2), .second, .val (.long p3), .second, .val (.int p4), .val (.int p5), .val (.int p6), .val (.int cd), .val (.int rs), .val (.int mx), .val (.int my), .val (.int lo), .val (.int hi), .val (.int fz), .val (.int ft), .val (.int kk), .val (.int z88), .val (.int lo), .unset, .unset, .unset, .unset, .unset, .unset, .unset, .unset] [(.int lo), (.int p5)])) (fun t k => XS.iload X87.here hx rfl (hb hby at_102) rfl k) ?_
        obtain ⟨_, _, ⟨T217, L217, k217, n217⟩, -, X217, ⟨Lc217, hQ217, l217, y217, z217⟩, st217⟩ := Jvm.LawKit.callS X87 hx (y := (⟨"java/lang/Math", "max", "(II)I"⟩ : MethodName)) hown (mvT hZ (hw _ (List.mem_of_getElem? (i := 4) rfl))) (mvT hZ (hw _ (List.mem_of_getElem? (i := 5) rfl))) (mvT hZ (hw _ (List.mem_of_getElem? (i := 2) rfl))) (mvT hZ (hw _ (List.mem_of_getElem? (i := 6) rfl))) (by decide) (backOf (W := 0) (own_rm_mmax l Z a0 hw [] p5 lo h0 n0 O0) hZ (hw _ (List.mem_of_getElem? (i := 6) rfl)) (hw _ (List.mem_of_getElem? (i := 2) rfl)) (by decide) (by decide)) (g := (mkF m 104 #[.val (.long p1), .second, .val (.long p2), .second, .val (.long p3), .second, .val (.int p4), .val (.int p5), .val (.int p6), .val (.int cd), .val (.int rs), .val (.int mx), .val (.int my), .val (.int lo), .val (.int hi), .val (.int fz), .val (.int ft), .val (.int kk), .val (.int z88), .val (.int lo), .unset, .unset, .unset, .unset, .unset, .unset, .unset, .unset] [(.int lo), (.int p5)])) rfl (by rw [hml]; rfl) (argsL := [(.int p5), (.int lo)]) (rest := []) (lenOf own_pd_2 rfl) rfl (by show 2 * 0 + _ ≤ _; exact Nat.le_of_eq rfl) (hb hby at_104) (fun _ _ => ⟨rfl, eh87, (by decide : 0 + 0 ≤ _), (by decide : 0 + 0 ≤ _)⟩)
        dsimp only [Pt.U, Pt.locs, Pt.cells, Pt.slots] at X217 l217 y217 z217 st217 hQ217
        subst l217 y217 z217
        obtain ⟨rfl, N217q, eh217⟩ := hQ217
        have N217 := Fr.app N87 N217q
        refine own_go (B := T217.setTop (mkF m 107 #[.val (.long p1), .second, .val (.long p2), .second, .val (.long p3), .second, .val (.int p4), .val (.int p5), .val (.int p6), .val (.int cd), .val (.int rs), .val (.int mx), .val (.int my), .val (.int lo), .val (.int hi), .val (.int fz), .val (.int ft), .val (.int kk), .val (.int z88), .val (.int lo), .unset, .unset, .unset, .unset, .unset, .unset, .unset, .unset] [(.int (own_max p5 lo))])) (fun t k => st217 _ k) ?_
        refine own_go (B := T217.setTop (mkF m 112 #[.val (.long p1), .second, .val (.long p2), .second, .val (.long p3), .second, .val (.int p4), .val (.int p5), .val (.int p6), .val (.int cd), .val (.int rs), .val (.int mx), .val (.int my), .val (.int lo), .val (.int hi), .val (.int fz), .val (.int ft), .val (.int kk), .val (.int z88), .val (.int lo), .unset, .unset, .unset, .unset, .unset, .unset, .unset, .unset] [(.int (own_max p5 lo))])) (fun t k => XS.goto X217.here hx rfl (pc0 := 107) (pc' := 112) rfl (hb hby at_107) (by decide) (by decide) k) ?_
        refine own_go (B := T217.setTop (mkF m 114 #[.val (.long p1), .second, .val (.long p2), .second, .val (.long p3), .second, .val (.int p4), .val (.int p5), .val (.int p6), .val (.int cd), .val (.int rs), .val (.int mx), .val (.int my), .val (.int lo), .val (.int hi), .val (.int fz), .val (.int ft), .val (.int kk), .val (.int z88), .val (.int lo), .val (.int (own_max p5 lo)), .unset, .unset, .unset, .unset, .unset, .unset, .unset] [])) (fun t k => XS.istore X217.here hx rfl (hb hby at_112) rfl (l' := #[.val (.long p1), .second, .val (.long p2), .second, .val (.long p3), .second, .val (.int p4), .val (.int p5), .val (.int p6), .val (.int cd), .val (.int rs), .val (.int mx), .val (.int my), .val (.int lo), .val (.int hi), .val (.int fz), .val (.int ft), .val (.int kk), .val (.int z88), .val (.int lo), .val (.int (own_max p5 lo)), .unset, .unset, .unset, .unset, .unset, .unset, .unset]) rfl k) ?_
        exact J89 _ _ X217 N217 eh217 lo (own_max p5 lo) (own_max_r p5 lo)
      · refine own_go (B := T87.setTop (mkF m 110 #[.val (.long p1), .second, .val (.long p2), .second, .val (.long p3), .second, .val (.int p4), .val (.int p5), .val (.int p6), .val (.int cd), .val (.int rs), .val (.int mx), .val (.int my), .val (.int lo), .val (.int hi), .val (.int fz), .val (.int ft), .val (.int kk), .val (.int z88), .val (.int lo), .unset, .unset, .unset, .unset, .unset, .unset, .unset, .unset] [])) (fun t k => XS.icmpYes X87.here hx rfl (pc0 := 97) (pc' := 110) rfl (hb hby at_97) rfl (feq hc97_216).2 (by decide) (by decide) k) ?_
        refine own_go (B := T87.setTop (mkF m 112 #[.val (.long p1), .second, .val (.long p2), .second, .val (.long p3), .second, .val (.int p4), .val (.int p5), .val (.int p6), .val (.int cd), .val (.int rs), .val (.int mx), .val (.int my), .val (.int lo), .val (.int hi), .val (.int fz), .val (.int ft), .val (.int kk), .val (.int z88), .val (.int lo), .unset, .unset, .unset, .unset, .unset, .unset, .unset, .unset] [(.int hi)])) (fun t k => XS.iload X87.here hx rfl (hb hby at_110) rfl k) ?_
        refine own_go (B := T87.setTop (mkF m 114 #[.val (.long p1), .second, .val (.long p2), .second, .val (.long p3), .second, .val (.int p4), .val (.int p5), .val (.int p6), .val (.int cd), .val (.int rs), .val (.int mx), .val (.int my), .val (.int lo), .val (.int hi), .val (.int fz), .val (.int ft), .val (.int kk), .val (.int z88), .val (.int lo), .val (.int hi), .unset, .unset, .unset, .unset, .unset, .unset, .unset] [])) (fun t k => XS.istore X87.here hx rfl (hb hby at_112) rfl (l' := #[.val (.long p1), .second, .val (.long p2), .second, .val (.long p3), .second, .val (.int p4), .val (.int p5), .val (.int p6), .val (.int cd), .val (.int rs), .val (.int mx), .val (.int my), .val (.int lo), .val (.int hi), .val (.int fz), .val (.int ft), .val (.int kk), .val (.int z88), .val (.int lo), .val (.int hi), .unset, .unset, .unset, .unset, .unset, .unset, .unset]) rfl k) ?_
        exact J89 _ _ X87 N87 eh87 lo hi hle_lo
  by_cases hc62_218 : kk = (0 : Int32)
  · refine own_go (B := T87.setTop (mkF m 65 #[.val (.long p1), .second, .val (.long p2), .second, .val (.long p3), .second, .val (.int p4), .val (.int p5), .val (.int p6), .val (.int cd), .val (.int rs), .val (.int mx), .val (.int my), .val (.int lo), .val (.int hi), .val (.int fz), .val (.int ft), .val (.int kk), .unset, .unset, .unset, .unset, .unset, .unset, .unset, .unset, .unset, .unset] [])) (fun t k => XS.ifNo X87.here hx rfl (hb hby at_62) rfl ((if0 _ _).trans (teq hc62_218).2) k) ?_
    refine own_go (B := T87.setTop (mkF m 67 #[.val (.long p1), .second, .val (.long p2), .second, .val (.long p3), .second, .val (.int p4), .val (.int p5), .val (.int p6), .val (.int cd), .val (.int rs), .val (.int mx), .val (.int my), .val (.int lo), .val (.int hi), .val (.int fz), .val (.int ft), .val (.int kk), .unset, .unset, .unset, .unset, .unset, .unset, .unset, .unset, .unset, .unset] [(.int p5)])) (fun t k => XS.iload X87.here hx rfl (hb hby at_65) rfl k) ?_
    refine own_go (B := T87.setTop (mkF m 72 #[.val (.long p1), .second, .val (.long p2), .second, .val (.long p3), .second, .val (.int p4), .val (.int p5), .val (.int p6), .val (.int cd), .val (.int rs), .val (.int mx), .val (.int my), .val (.int lo), .val (.int hi), .val (.int fz), .val (.int ft), .val (.int kk), .unset, .unset, .unset, .unset, .unset, .unset, .unset, .unset, .unset, .unset] [(.int p5)])) (fun t k => XS.goto X87.here hx rfl (pc0 := 67) (pc' := 72) rfl (hb hby at_67) (by decide) (by decide) k) ?_
    exact J88 p5
  · refine own_go (B := T87.setTop (mkF m 70 #[.val (.long p1), .second, .val (.long p2), .second, .val (.long p3), .second, .val (.int p4), .val (.int p5), .val (.int p6), .val (.int cd), .val (.int rs), .val (.int mx), .val (.int my), .val (.int lo), .val (.int hi), .val (.int fz), .val (.int ft), .val (.int kk), .unset, .unset, .unset, .unset, .unset, .unset, .unset, .unset, .unset, .unset] [])) (fun t k => XS.ifYes X87.here hx rfl (pc0 := 62) (pc' := 70) rfl (hb hby at_62) rfl ((if0 _ _).trans (feq hc62_218).2) (by decide) (by decide) k) ?_
    refine own_go (B := T87.setTop (mkF m 72 #[.val (.long p1), .second, .val (.long p2), .second, .val (.long p3), .second, .val (.int p4), .val (.int p5), .val (.int p6), .val (.int cd), .val (.int rs), .val (.int mx), .val (.int my), .val (.int lo), .val (.int hi), .val (.int fz), .val (.int ft), .val (.int kk), .unset, .unset, .unset, .unset, .unset, .unset, .unset, .unset, .unset, .unset] [(.int cd)])) (fun t k => XS.iload X87.here hx rfl (hb hby at_70) rfl k) ?_
    exact J88 cd
set_option maxRecDepth 65536 in
set_option maxHeartbeats 40000000 in
theorem comes_1 {Post : Tables → Env → Array Value → State → Outcome → State → Prop} (hpost : ∀ tb e args s v u, (limb_1_1.after args s (.returned v) u = true ∧ limb_1_2.after args s (.returned v) u = true ∧ True) → FrameEnd s (.returned v) u (Jvm.fieldLocs frame_1_writes args s ++ Jvm.arrayLocs frame_1_arrays args s ++ Jvm.staticLocs frame_1_statics s) 16 128 → Post tb e args s (.returned v) u) :
    ArmFor flags0 classFile x code maxLocals ret World_1 tables_1 room_1 Calls_1 rest_1 Pre_1 Post := by
  intro l hfl _ _ p e ha hc hk s m args below hf hA hF happ hP
  obtain ⟨hcalls, hrest, hpre⟩ := hP
  obtain ⟨-, -, -, hnamed, -, -, -, hat⟩ := (Spec.applies_iff hf).mp happ
  obtain ⟨hg, hn⟩ := and_e (Cond.before_iff.mp (show (Jvm.Cond.and given_1 narrow_1).before args s = true from hpre))
  obtain ⟨hga, hgb⟩ := and_e hg
  obtain ⟨hgba, hgbb⟩ := and_e hgb
  obtain ⟨hgbba, hgbbb⟩ := and_e hgbb
  obtain ⟨hgbbba, hgbbbb⟩ := and_e hgbbb
  obtain ⟨hgbbbba, hgbbbbb⟩ := and_e hgbbbb
  obtain ⟨hgbbbbba, hgbbbbbb⟩ := and_e hgbbbbb
  obtain ⟨v0, v1, v2, v3, v4, v5, rfl⟩ : ∃ v0 v1 v2 v3 v4 v5 : Value, args = #[v0, v1, v2, v3, v4, v5] := by
    have hs : args.size = 6 := by simpa [Cond.value, given_1] using hga
    obtain ⟨L⟩ := args
    match L, hs with
    | [v0, v1, v2, v3, v4, v5], _ => exact ⟨v0, v1, v2, v3, v4, v5, rfl⟩
  have hw := fun d (hd : d ∈ tables_1) => atoms_spec (ws := Jvm.Cond.code x code maxLocals ret :: tables_1) hat d (List.mem_cons_of_mem _ hd)
  have hfit : Fit s := fun {y c} hc i hi => by
    obtain ⟨ha, rfl⟩ := Array.getElem?_eq_some_iff.mp hc
    have q := List.all_eq_true.mp ((Array.all_eq_true_iff_forall_mem.mp hF) _ (Array.getElem_mem ha)) i (List.mem_range.mpr hi)
    simpa [Array.getElem?_eq_getElem hi] using q
  obtain ⟨hsets, hown0⟩ := atoms_of _ (rest_1_c_eq ▸ (show rest_1_c.before _ s = true from hrest))
  have hr0 := Cond.before_iff.mp hown0
  obtain ⟨p1, ep1⟩ := isL_v hgba
  obtain rfl : v0 = (.long p1) := Option.some.inj ep1
  obtain ⟨p2, ep2⟩ := isL_v hgbba
  obtain rfl : v1 = (.long p2) := Option.some.inj ep2
  obtain ⟨p3, ep3⟩ := isL_v hgbbba
  obtain rfl : v2 = (.long p3) := Option.some.inj ep3
  obtain ⟨p4, ep4⟩ := is_v hgbbbba
  obtain rfl : v3 = (.int p4) := Option.some.inj ep4
  obtain ⟨p5, ep5⟩ := is_v hgbbbbba
  obtain rfl : v4 = (.int p5) := Option.some.inj ep5
  obtain ⟨p6, ep6⟩ := is_v hgbbbbbb
  obtain rfl : v5 = (.int p6) := Option.some.inj ep6
  obtain ⟨w_cache, cl, Hc⟩ := own_cache (Z := s) (fun d hd => hsets d hd) (hw _ (List.mem_of_getElem? (i := 33) rfl))
  obtain ⟨n, o, h1, h2, h3, _, L, rfl, ⟨rfl, N⟩, hq⟩ := own_rm_law l s _ hw tables_1 p1 p2 p3 p4 p5 p6 w_cache cl s.heap s.heap.size (Old.start s) Hc p e ha hc hk s m _ below hf ((Spec.applies_iff_loose hf).mp happ).1 ⟨rfl, State.Warmed39.refl s, rfl⟩ trivial
  refine ⟨n, _, h1, h2, h3, hpost _ _ _ _ _ _ ⟨Cond.after_iff.mpr rfl, Cond.after_iff.mpr (eq_i res_at (Term.int_eval (1)) rfl), trivial⟩ ⟨hq.1, hq.2.1, (hq.2.2.sift fun y hy => Or.inr (N y hy)).mono (by decide) (by decide)⟩⟩
theorem main_1_1 : Claimed_1_1 := comes_1 fun _ _ _ _ _ _ h hF => ⟨h.1, hF⟩
theorem main_1_2 : Claimed_1_2 := comes_1 fun _ _ _ _ _ _ h hF => ⟨h.2.1, hF⟩
end Jvm.Pilot.@@N@@
namespace Jvm.Pilot.@@N@@
open Jvm Jvm.ClassFile Sem Op Lib Jvm.Free Jvm.Stand Jvm.Pilot.@@N@@.Jvm.D
/-! MADE BY PROGRAM (witnessworld.py) out of the Statement's table words and the real class files: 17 classes; the members and pool entries that the words name. The judged class is class 1, her method 1. -/
namespace start1
open Jvm.ClassFile
def u (s : String) : CpInfo := .utf8 (stringToUtf16 s)
/-- a pool by its gaps: so many unusable entries, then the entry; so many at the end -/
def gap : Nat → List CpInfo → List CpInfo
  | 0, r => r
  | n + 1, r => .unusable :: gap n r
def poolList (es : List (Nat × CpInfo)) (last : Nat) : List CpInfo := es.foldr (fun e r => gap e.1 (e.2 :: r)) (gap last [])
def pool (es : List (Nat × CpInfo)) (last : Nat) : Array CpInfo := ⟨poolList es last⟩
def fileOf (pool : Array CpInfo) (this : Nat) (attrs : Array Attribute := #[]) (ms : Array MethodInfo := #[]) (fl : Nat := 33) (sup : Nat := 0) (ifs : Array Nat := #[]) (fds : Array FieldInfo := #[]) : ClassFile where
  minorVersion := 0
  majorVersion := 65
  constantPool := pool
  accessFlags := fl
  thisClass := this
  superClass := sup
  interfaces := ifs
  fields := fds
  methods := ms
  attributes := attrs
def plain (name : String) (sup : Option ClassId) : Class where
  name := name
  kind := .ordinary
  loader := none
  accessFlags := 33
  super := sup
  interfaces := #[]
  cf := none
  fields := #[]
  methods := #[]
  instanceTypes := #[]
  staticTypes := #[]
  resolved := #[]
  callSites := []
  init := .initialized
  statics := none
  mirror := none

def pool0 : Array CpInfo := pool [(5, u "<init>"), (0, u "()V"), (1, .class_ 10), (1, u "java/lang/Object")] 113

def k0c0 : Code := { maxStack := 0, maxLocals := 1, code := object_method_1_code, exceptionTable := #[], attributes := #[] }
def k0m0 : Method := { name := "<init>", desc := "()V", sig := { parameters := [], returnType := none }, accessFlags := 1, code := some k0c0 }
/-- java/lang/Object -/
def k0 : Class := { plain "java/lang/Object" none with
  accessFlags := 33
  interfaces := #[]
  cf := some (fileOf pool0 8 #[] #[{ accessFlags := 1, nameIndex := 5, descriptorIndex := 6, attributes := #[] }] 33 0 #[] #[])
  fields := #[]
  methods := #[k0m0]
  instanceTypes := #[]
  staticTypes := #[]
  resolved := Array.replicate 124 none
  statics := none }

def pool1 : Array CpInfo := pool [(2, .class_ 4), (1, u "java/lang/Object"), (0, u "<init>"), (0, u "()V"), (0, .methodref 8 9), (0, .class_ 10), (0, .nameAndType 11 12), (0, u "java/lang/Math"), (0, u "min"), (0, u "(II)I"), (0, .methodref 8 14), (0, .nameAndType 15 12), (0, u "max"), (0, .class_ 17), (0, u "com/example/helm_of_panes/helmofpanes/input/AbsoluteAxis"), (0, .methodref 16 19), (0, .nameAndType 5 20), (0, u "(IIIIII)V"), (0, .methodref 16 22), (0, .nameAndType 23 24), (0, u "equals"), (0, u "(Ljava/lang/Object;)Z"), (0, .methodref 26 27), (0, .class_ 28), (0, .nameAndType 29 30), (0, u "java/lang/Integer"), (0, u "valueOf"), (0, u "(I)Ljava/lang/Integer;"), (0, .class_ 32), (0, u "com/example/helm_of_panes/helmofpanes/input/AbsoluteAxisEqualsPinLaw"), (2, u "law"), (0, u "(JJJIII)Z")] 3

def k1m0 : Method := { name := "<init>", desc := "()V", sig := { parameters := [], returnType := none }, accessFlags := 1, code := none }
def k1c1 : Code := { maxStack := 8, maxLocals := 28, code := code, exceptionTable := #[], attributes := #[] }
def k1m1 : Method := { name := "law", desc := "(JJJIII)Z", sig := { parameters := [.long, .long, .long, .int, .int, .int], returnType := some .boolean }, accessFlags := 9, code := some k1c1 }
/-- com/example/helm_of_panes/helmofpanes/input/AbsoluteAxisEqualsPinLaw -/
def k1 : Class := { plain "com/example/helm_of_panes/helmofpanes/input/AbsoluteAxisEqualsPinLaw" (some 0) with
  accessFlags := 49
  interfaces := #[]
  cf := some (fileOf pool1 31 #[] #[{ accessFlags := 1, nameIndex := 5, descriptorIndex := 6, attributes := #[] }, { accessFlags := 9, nameIndex := 35, descriptorIndex := 36, attributes := #[] }] 49 2 #[] #[])
  fields := #[]
  methods := #[k1m0, k1m1]
  instanceTypes := #[]
  staticTypes := #[]
  resolved := Array.replicate 40 none
  statics := none }

def pool2 : Array CpInfo := pool [(1, .class_ 2), (0, u "java/lang/Math"), (1, .class_ 6), (1, u "java/lang/Object"), (0, u "<init>"), (0, u "()V"), (89, .class_ 100), (1, u "java/lang/Math$RandomNumberGeneratorHolder"), (71, u "negativeZeroFloatBits"), (0, u "J"), (2, u "negativeZeroDoubleBits"), (21, u "max"), (2, u "min"), (43, u "$assertionsDisabled"), (0, u "Z"), (88, u "(II)I"), (2, u "twoToTheDoubleScaleDown"), (0, u "D"), (4, u "twoToTheDoubleScaleUp"), (9, u "E"), (3, u "PI"), (2, u "TAU"), (2, u "DEGREES_TO_RADIANS"), (0, u "RADIANS_TO_DEGREES")] 94

def k2m0 : Method := { name := "<init>", desc := "()V", sig := { parameters := [], returnType := none }, accessFlags := 2, code := none }
def k2c1 : Code := { maxStack := 2, maxLocals := 2, code := jdk_29_method_65_code, exceptionTable := #[], attributes := #[] }
def k2m1 : Method := { name := "max", desc := "(II)I", sig := { parameters := [.int, .int], returnType := some .int }, accessFlags := 9, code := some k2c1 }
def k2c2 : Code := { maxStack := 2, maxLocals := 2, code := jdk_29_method_69_code, exceptionTable := #[], attributes := #[] }
def k2m2 : Method := { name := "min", desc := "(II)I", sig := { parameters := [.int, .int], returnType := some .int }, accessFlags := 9, code := some k2c2 }
/-- java/lang/Math -/
def k2 : Class := { plain "java/lang/Math" (some 0) with
  accessFlags := 49
  interfaces := #[]
  cf := some (fileOf pool2 1 #[.nestMembers #[98]] #[{ accessFlags := 2, nameIndex := 7, descriptorIndex := 8, attributes := #[] }, { accessFlags := 9, nameIndex := 198, descriptorIndex := 335, attributes := #[] }, { accessFlags := 9, nameIndex := 201, descriptorIndex := 335, attributes := #[] }] 49 4 #[] #[{ accessFlags := 25, nameIndex := 354, descriptorIndex := 339, attributes := #[] }, { accessFlags := 25, nameIndex := 358, descriptorIndex := 339, attributes := #[] }, { accessFlags := 25, nameIndex := 361, descriptorIndex := 339, attributes := #[] }, { accessFlags := 26, nameIndex := 364, descriptorIndex := 339, attributes := #[] }, { accessFlags := 26, nameIndex := 365, descriptorIndex := 339, attributes := #[] }, { accessFlags := 26, nameIndex := 172, descriptorIndex := 173, attributes := #[] }, { accessFlags := 26, nameIndex := 176, descriptorIndex := 173, attributes := #[] }, { accessFlags := 8, nameIndex := 344, descriptorIndex := 339, attributes := #[] }, { accessFlags := 8, nameIndex := 338, descriptorIndex := 339, attributes := #[] }, { accessFlags := 4120, nameIndex := 245, descriptorIndex := 246, attributes := #[] }])
  fields := #[{ name := "E", type := .double, accessFlags := 25, slot := 0, constantValue := 0 }, { name := "PI", type := .double, accessFlags := 25, slot := 1, constantValue := 0 }, { name := "TAU", type := .double, accessFlags := 25, slot := 2, constantValue := 0 }, { name := "DEGREES_TO_RADIANS", type := .double, accessFlags := 26, slot := 3, constantValue := 0 }, { name := "RADIANS_TO_DEGREES", type := .double, accessFlags := 26, slot := 4, constantValue := 0 }, { name := "negativeZeroFloatBits", type := .long, accessFlags := 26, slot := 5, constantValue := 0 }, { name := "negativeZeroDoubleBits", type := .long, accessFlags := 26, slot := 6, constantValue := 0 }, { name := "twoToTheDoubleScaleUp", type := .double, accessFlags := 8, slot := 7, constantValue := 0 }, { name := "twoToTheDoubleScaleDown", type := .double, accessFlags := 8, slot := 8, constantValue := 0 }, { name := "$assertionsDisabled", type := .boolean, accessFlags := 4120, slot := 9, constantValue := 0 }]
  methods := #[k2m0, k2m1, k2m2]
  instanceTypes := #[]
  staticTypes := #[.double, .double, .double, .double, .double, .long, .long, .double, .double, .boolean]
  resolved := Array.replicate 460 none
  statics := none }

def pool3 : Array CpInfo := pool [(1, .methodref 2 3), (0, .class_ 4), (0, .nameAndType 5 6), (0, u "java/lang/Object"), (0, u "<init>"), (0, u "()V"), (9, .fieldref 17 18), (0, .class_ 19), (0, .nameAndType 20 21), (0, u "com/example/helm_of_panes/helmofpanes/input/AbsoluteAxis"), (0, u "code"), (0, u "I"), (0, .fieldref 17 23), (0, .nameAndType 24 21), (0, u "minimum"), (0, .fieldref 17 26), (0, .nameAndType 27 21), (0, u "maximum"), (0, .fieldref 17 29), (0, .nameAndType 30 21), (0, u "fuzz"), (0, .fieldref 17 32), (0, .nameAndType 33 21), (0, u "flat"), (0, .fieldref 17 35), (0, .nameAndType 36 21), (0, u "resolution"), (18, u "(IIIIII)V"), (12, u "equals"), (0, u "(Ljava/lang/Object;)Z")] 18

def k3c0 : Code := { maxStack := 4, maxLocals := 7, code := prog_19_method_1_code, exceptionTable := #[], attributes := #[] }
def k3m0 : Method := { name := "<init>", desc := "(IIIIII)V", sig := { parameters := [.int, .int, .int, .int, .int, .int], returnType := none }, accessFlags := 1, code := some k3c0 }
def k3c1 : Code := { maxStack := 2, maxLocals := 3, code := prog_19_method_9_code, exceptionTable := #[], attributes := #[] }
def k3m1 : Method := { name := "equals", desc := "(Ljava/lang/Object;)Z", sig := { parameters := [(.object "java/lang/Object")], returnType := some .boolean }, accessFlags := 1, code := some k3c1 }
/-- com/example/helm_of_panes/helmofpanes/input/AbsoluteAxis -/
def k3 : Class := { plain "com/example/helm_of_panes/helmofpanes/input/AbsoluteAxis" (some 0) with
  accessFlags := 33
  interfaces := #[]
  cf := some (fileOf pool3 17 #[] #[{ accessFlags := 1, nameIndex := 5, descriptorIndex := 55, attributes := #[] }, { accessFlags := 1, nameIndex := 68, descriptorIndex := 69, attributes := #[] }] 33 2 #[] #[{ accessFlags := 18, nameIndex := 20, descriptorIndex := 21, attributes := #[] }, { accessFlags := 18, nameIndex := 24, descriptorIndex := 21, attributes := #[] }, { accessFlags := 18, nameIndex := 27, descriptorIndex := 21, attributes := #[] }, { accessFlags := 18, nameIndex := 30, descriptorIndex := 21, attributes := #[] }, { accessFlags := 18, nameIndex := 33, descriptorIndex := 21, attributes := #[] }, { accessFlags := 18, nameIndex := 36, descriptorIndex := 21, attributes := #[] }])
  fields := #[{ name := "code", type := .int, accessFlags := 18, slot := 0, constantValue := 0 }, { name := "minimum", type := .int, accessFlags := 18, slot := 1, constantValue := 0 }, { name := "maximum", type := .int, accessFlags := 18, slot := 2, constantValue := 0 }, { name := "fuzz", type := .int, accessFlags := 18, slot := 3, constantValue := 0 }, { name := "flat", type := .int, accessFlags := 18, slot := 4, constantValue := 0 }, { name := "resolution", type := .int, accessFlags := 18, slot := 5, constantValue := 0 }]
  methods := #[k3m0, k3m1]
  instanceTypes := #[.int, .int, .int, .int, .int, .int]
  staticTypes := #[]
  resolved := Array.replicate 88 none
  statics := none }

def pool4 : Array CpInfo := pool [(1, .class_ 2), (0, u "java/io/Serializable"), (0, .class_ 4), (0, u "java/lang/Object")] 2

/-- java/io/Serializable -/
def k4 : Class := { plain "java/io/Serializable" (some 0) with
  accessFlags := 1537
  interfaces := #[]
  cf := some (fileOf pool4 1 #[] #[] 1537 3 #[] #[])
  fields := #[]
  methods := #[]
  instanceTypes := #[]
  staticTypes := #[]
  resolved := Array.replicate 7 none
  statics := none }

def pool5 : Array CpInfo := pool [(1, .methodref 2 3), (0, .class_ 4), (0, .nameAndType 5 6), (0, u "java/lang/Object"), (0, u "<init>"), (0, u "()V"), (1, .class_ 10), (1, u "java/lang/Number"), (2, .class_ 14), (0, u "java/io/Serializable"), (0, u "serialVersionUID"), (0, u "J")] 20

def k5c0 : Code := { maxStack := 1, maxLocals := 1, code := jdk_18_method_1_code, exceptionTable := #[], attributes := #[] }
def k5m0 : Method := { name := "<init>", desc := "()V", sig := { parameters := [], returnType := none }, accessFlags := 1, code := some k5c0 }
/-- java/lang/Number -/
def k5 : Class := { plain "java/lang/Number" (some 0) with
  accessFlags := 1057
  interfaces := #[4]
  cf := some (fileOf pool5 8 #[] #[{ accessFlags := 1, nameIndex := 5, descriptorIndex := 6, attributes := #[] }] 1057 2 #[13] #[{ accessFlags := 26, nameIndex := 15, descriptorIndex := 16, attributes := #[] }])
  fields := #[{ name := "serialVersionUID", type := .long, accessFlags := 26, slot := 0, constantValue := 0 }]
  methods := #[k5m0]
  instanceTypes := #[]
  staticTypes := #[.long]
  resolved := Array.replicate 37 none
  statics := none }

def pool6 : Array CpInfo := pool [(1, .class_ 2), (0, u "java/lang/Comparable"), (0, .class_ 4), (0, u "java/lang/Object")] 7

/-- java/lang/Comparable -/
def k6 : Class := { plain "java/lang/Comparable" (some 0) with
  accessFlags := 1537
  interfaces := #[]
  cf := some (fileOf pool6 1 #[] #[] 1537 3 #[] #[])
  fields := #[]
  methods := #[]
  instanceTypes := #[]
  staticTypes := #[]
  resolved := Array.replicate 12 none
  statics := none }

def pool7 : Array CpInfo := pool [(1, .class_ 2), (0, u "java/lang/constant/Constable"), (0, .class_ 4), (0, u "java/lang/Object")] 6

/-- java/lang/constant/Constable -/
def k7 : Class := { plain "java/lang/constant/Constable" (some 0) with
  accessFlags := 1537
  interfaces := #[]
  cf := some (fileOf pool7 1 #[] #[] 1537 3 #[] #[])
  fields := #[]
  methods := #[]
  instanceTypes := #[]
  staticTypes := #[]
  resolved := Array.replicate 11 none
  statics := none }

def pool8 : Array CpInfo := pool [(1, .class_ 2), (0, u "java/lang/constant/ConstantDesc"), (0, .class_ 4), (0, u "java/lang/Object")] 32

/-- java/lang/constant/ConstantDesc -/
def k8 : Class := { plain "java/lang/constant/ConstantDesc" (some 0) with
  accessFlags := 1537
  interfaces := #[]
  cf := some (fileOf pool8 1 #[] #[] 1537 3 #[] #[])
  fields := #[]
  methods := #[]
  instanceTypes := #[]
  staticTypes := #[]
  resolved := Array.replicate 37 none
  statics := none }

def pool9 : Array CpInfo := pool [(1, .class_ 2), (0, u "java/lang/Integer"), (16, u "digits"), (0, u "[C"), (46, u "<init>"), (17, u "DigitOnes"), (0, u "[B"), (2, u "DigitTens"), (10, .nameAndType 67 101), (0, u "()V"), (85, u "valueOf"), (0, u "(I)Ljava/lang/Integer;"), (0, .class_ 190), (0, u "java/lang/Integer$IntegerCache"), (0, .fieldref 189 192), (0, .nameAndType 193 194), (0, u "high"), (0, u "I"), (0, .fieldref 189 196), (0, .nameAndType 197 198), (0, u "cache"), (0, u "[Ljava/lang/Integer;"), (0, .methodref 1 200), (0, .nameAndType 67 201), (0, u "(I)V"), (0, .methodref 203 100), (0, .class_ 204), (0, u "java/lang/Number"), (0, .fieldref 1 206), (0, .nameAndType 207 194), (0, u "value"), (94, u "TYPE"), (0, u "Ljava/lang/Class;"), (0, .class_ 305), (0, u "java/lang/Comparable"), (0, .class_ 307), (0, u "java/lang/constant/Constable"), (0, .class_ 309), (0, u "java/lang/constant/ConstantDesc"), (0, u "MIN_VALUE"), (1, u "MAX_VALUE"), (3, u "SIZE"), (1, u "BYTES"), (1, u "serialVersionUID"), (0, u "J")] 131

def k9c0 : Code := { maxStack := 3, maxLocals := 1, code := jdk_33_method_22_code, exceptionTable := #[], attributes := #[] }
def k9m0 : Method := { name := "valueOf", desc := "(I)Ljava/lang/Integer;", sig := { parameters := [.int], returnType := some (.object "java/lang/Integer") }, accessFlags := 9, code := some k9c0 }
def k9c1 : Code := { maxStack := 2, maxLocals := 2, code := jdk_33_method_23_code, exceptionTable := #[], attributes := #[] }
def k9m1 : Method := { name := "<init>", desc := "(I)V", sig := { parameters := [.int], returnType := none }, accessFlags := 1, code := some k9c1 }
/-- java/lang/Integer -/
def k9 : Class := { plain "java/lang/Integer" (some 5) with
  accessFlags := 49
  interfaces := #[6, 7, 8]
  cf := some (fileOf pool9 1 #[.nestMembers #[189]] #[{ accessFlags := 9, nameIndex := 187, descriptorIndex := 188, attributes := #[] }, { accessFlags := 1, nameIndex := 67, descriptorIndex := 201, attributes := #[] }] 49 203 #[304, 306, 308] #[{ accessFlags := 25, nameIndex := 310, descriptorIndex := 194, attributes := #[] }, { accessFlags := 25, nameIndex := 312, descriptorIndex := 194, attributes := #[] }, { accessFlags := 25, nameIndex := 302, descriptorIndex := 303, attributes := #[] }, { accessFlags := 24, nameIndex := 19, descriptorIndex := 20, attributes := #[] }, { accessFlags := 24, nameIndex := 89, descriptorIndex := 86, attributes := #[] }, { accessFlags := 24, nameIndex := 85, descriptorIndex := 86, attributes := #[] }, { accessFlags := 18, nameIndex := 207, descriptorIndex := 194, attributes := #[] }, { accessFlags := 25, nameIndex := 316, descriptorIndex := 194, attributes := #[] }, { accessFlags := 25, nameIndex := 318, descriptorIndex := 194, attributes := #[] }, { accessFlags := 26, nameIndex := 320, descriptorIndex := 321, attributes := #[] }])
  fields := #[{ name := "MIN_VALUE", type := .int, accessFlags := 25, slot := 0, constantValue := 0 }, { name := "MAX_VALUE", type := .int, accessFlags := 25, slot := 1, constantValue := 0 }, { name := "TYPE", type := (.object "java/lang/Class"), accessFlags := 25, slot := 2, constantValue := 0 }, { name := "digits", type := (.array .char), accessFlags := 24, slot := 3, constantValue := 0 }, { name := "DigitTens", type := (.array .byte), accessFlags := 24, slot := 4, constantValue := 0 }, { name := "DigitOnes", type := (.array .byte), accessFlags := 24, slot := 5, constantValue := 0 }, { name := "value", type := .int, accessFlags := 18, slot := 0, constantValue := 0 }, { name := "SIZE", type := .int, accessFlags := 25, slot := 6, constantValue := 0 }, { name := "BYTES", type := .int, accessFlags := 25, slot := 7, constantValue := 0 }, { name := "serialVersionUID", type := .long, accessFlags := 26, slot := 8, constantValue := 0 }]
  methods := #[k9m0, k9m1]
  instanceTypes := #[.int]
  staticTypes := #[.int, .int, (.object "java/lang/Class"), (.array .char), (.array .byte), (.array .byte), .int, .int, .long]
  resolved := Array.replicate 453 none
  statics := none }

def pool10 : Array CpInfo := pool [(2, .class_ 4), (1, u "java/lang/Object"), (0, u "<init>"), (0, u "()V"), (0, .class_ 8), (0, u "java/lang/Integer"), (7, .class_ 18), (1, u "java/lang/Integer$IntegerCache"), (0, u "$assertionsDisabled"), (0, u "Z"), (26, u "high"), (0, u "I"), (8, u "archivedCache"), (0, u "[Ljava/lang/Integer;"), (12, u "cache"), (0, u "low")] 27

def k10m0 : Method := { name := "<init>", desc := "()V", sig := { parameters := [], returnType := none }, accessFlags := 2, code := none }
/-- java/lang/Integer$IntegerCache -/
def k10 : Class := { plain "java/lang/Integer$IntegerCache" (some 0) with
  accessFlags := 48
  interfaces := #[]
  cf := some (fileOf pool10 16 #[.nestHost 7] #[{ accessFlags := 2, nameIndex := 5, descriptorIndex := 6, attributes := #[] }] 48 2 #[] #[{ accessFlags := 24, nameIndex := 72, descriptorIndex := 48, attributes := #[] }, { accessFlags := 24, nameIndex := 47, descriptorIndex := 48, attributes := #[] }, { accessFlags := 24, nameIndex := 71, descriptorIndex := 58, attributes := #[] }, { accessFlags := 8, nameIndex := 57, descriptorIndex := 58, attributes := #[] }, { accessFlags := 4120, nameIndex := 19, descriptorIndex := 20, attributes := #[] }])
  fields := #[{ name := "low", type := .int, accessFlags := 24, slot := 0, constantValue := 0 }, { name := "high", type := .int, accessFlags := 24, slot := 1, constantValue := 0 }, { name := "cache", type := (.array (.object "java/lang/Integer")), accessFlags := 24, slot := 2, constantValue := 0 }, { name := "archivedCache", type := (.array (.object "java/lang/Integer")), accessFlags := 8, slot := 3, constantValue := 0 }, { name := "$assertionsDisabled", type := .boolean, accessFlags := 4120, slot := 4, constantValue := 0 }]
  methods := #[k10m0]
  instanceTypes := #[]
  staticTypes := #[.int, .int, (.array (.object "java/lang/Integer")), (.array (.object "java/lang/Integer")), .boolean]
  resolved := Array.replicate 100 none
  statics := some 0 }

def pool11 : Array CpInfo := pool [(1, u "java/lang/Cloneable"), (0, .class_ 1), (0, u "java/lang/Object"), (0, .class_ 3)] 3

/-- java/lang/Cloneable -/
def k11 : Class := { plain "java/lang/Cloneable" (some 0) with
  accessFlags := 1537
  interfaces := #[]
  cf := some (fileOf pool11 2 #[] #[] 1537 4 #[] #[])
  fields := #[]
  methods := #[]
  instanceTypes := #[]
  staticTypes := #[]
  resolved := Array.replicate 8 none
  statics := none }

/-- the primitive byte -/
def k12 : Class := { plain "byte" none with kind := .primitive 'B', accessFlags := 0x411 }
/-- [B -/
def k13 : Class := { plain "[B" (some 0) with kind := .array 12 .byte, interfaces := #[11, 4], accessFlags := 1041 }

/-- the primitive int -/
def k14 : Class := { plain "int" none with kind := .primitive 'I', accessFlags := 0x411 }
/-- [I -/
def k15 : Class := { plain "[I" (some 0) with kind := .array 14 .int, interfaces := #[11, 4], accessFlags := 1041 }

/-- [Ljava/lang/Integer; -/
def k16 : Class := { plain "[Ljava/lang/Integer;" (some 0) with kind := .array 9 (.object "java/lang/Integer"), interfaces := #[11, 4], accessFlags := 1041 }

def heap : Heap := #[{ cls := 10, slots := #[.int 0, .int 127, .ref 1, .null, .int 0], vm := .statics 10 },
  { cls := 16, slots := #[.ref 2, .ref 3, .ref 4, .ref 5, .ref 6, .ref 7, .ref 8, .ref 9, .ref 10, .ref 11, .ref 12, .ref 13, .ref 14, .ref 15, .ref 16, .ref 17, .ref 18, .ref 19, .ref 20, .ref 21, .ref 22, .ref 23, .ref 24, .ref 25, .ref 26, .ref 27, .ref 28, .ref 29, .ref 30, .ref 31, .ref 32, .ref 33, .ref 34, .ref 35, .ref 36, .ref 37, .ref 38, .ref 39, .ref 40, .ref 41, .ref 42, .ref 43, .ref 44, .ref 45, .ref 46, .ref 47, .ref 48, .ref 49, .ref 50, .ref 51, .ref 52, .ref 53, .ref 54, .ref 55, .ref 56, .ref 57, .ref 58, .ref 59, .ref 60, .ref 61, .ref 62, .ref 63, .ref 64, .ref 65, .ref 66, .ref 67, .ref 68, .ref 69, .ref 70, .ref 71, .ref 72, .ref 73, .ref 74, .ref 75, .ref 76, .ref 77, .ref 78, .ref 79, .ref 80, .ref 81, .ref 82, .ref 83, .ref 84, .ref 85, .ref 86, .ref 87, .ref 88, .ref 89, .ref 90, .ref 91, .ref 92, .ref 93, .ref 94, .ref 95, .ref 96, .ref 97, .ref 98, .ref 99, .ref 100, .ref 101, .ref 102, .ref 103, .ref 104, .ref 105, .ref 106, .ref 107, .ref 108, .ref 109, .ref 110, .ref 111, .ref 112, .ref 113, .ref 114, .ref 115, .ref 116, .ref 117, .ref 118, .ref 119, .ref 120, .ref 121, .ref 122, .ref 123, .ref 124, .ref 125, .ref 126, .ref 127, .ref 128, .ref 129, .ref 130, .ref 131, .ref 132, .ref 133, .ref 134, .ref 135, .ref 136, .ref 137, .ref 138, .ref 139, .ref 140, .ref 141, .ref 142, .ref 143, .ref 144, .ref 145, .ref 146, .ref 147, .ref 148, .ref 149, .ref 150, .ref 151, .ref 152, .ref 153, .ref 154, .ref 155, .ref 156, .ref 157, .ref 158, .ref 159, .ref 160, .ref 161, .ref 162, .ref 163, .ref 164, .ref 165, .ref 166, .ref 167, .ref 168, .ref 169, .ref 170, .ref 171, .ref 172, .ref 173, .ref 174, .ref 175, .ref 176, .ref 177, .ref 178, .ref 179, .ref 180, .ref 181, .ref 182, .ref 183, .ref 184, .ref 185, .ref 186, .ref 187, .ref 188, .ref 189, .ref 190, .ref 191, .ref 192, .ref 193, .ref 194, .ref 195, .ref 196, .ref 197, .ref 198, .ref 199, .ref 200, .ref 201, .ref 202, .ref 203, .ref 204, .ref 205, .ref 206, .ref 207, .ref 208, .ref 209, .ref 210, .ref 211, .ref 212, .ref 213, .ref 214, .ref 215, .ref 216, .ref 217, .ref 218, .ref 219, .ref 220, .ref 221, .ref 222, .ref 223, .ref 224, .ref 225, .ref 226, .ref 227, .ref 228, .ref 229, .ref 230, .ref 231, .ref 232, .ref 233, .ref 234, .ref 235, .ref 236, .ref 237, .ref 238, .ref 239, .ref 240, .ref 241, .ref 242, .ref 243, .ref 244, .ref 245, .ref 246, .ref 247, .ref 248, .ref 249, .ref 250, .ref 251, .ref 252, .ref 253, .ref 254, .ref 255, .ref 256, .ref 257], vm := .none },
  { cls := 9, slots := #[.int (-128)], vm := .none },
  { cls := 9, slots := #[.int (-127)], vm := .none },
  { cls := 9, slots := #[.int (-126)], vm := .none },
  { cls := 9, slots := #[.int (-125)], vm := .none },
  { cls := 9, slots := #[.int (-124)], vm := .none },
  { cls := 9, slots := #[.int (-123)], vm := .none },
  { cls := 9, slots := #[.int (-122)], vm := .none },
  { cls := 9, slots := #[.int (-121)], vm := .none },
  { cls := 9, slots := #[.int (-120)], vm := .none },
  { cls := 9, slots := #[.int (-119)], vm := .none },
  { cls := 9, slots := #[.int (-118)], vm := .none },
  { cls := 9, slots := #[.int (-117)], vm := .none },
  { cls := 9, slots := #[.int (-116)], vm := .none },
  { cls := 9, slots := #[.int (-115)], vm := .none },
  { cls := 9, slots := #[.int (-114)], vm := .none },
  { cls := 9, slots := #[.int (-113)], vm := .none },
  { cls := 9, slots := #[.int (-112)], vm := .none },
  { cls := 9, slots := #[.int (-111)], vm := .none },
  { cls := 9, slots := #[.int (-110)], vm := .none },
  { cls := 9, slots := #[.int (-109)], vm := .none },
  { cls := 9, slots := #[.int (-108)], vm := .none },
  { cls := 9, slots := #[.int (-107)], vm := .none },
  { cls := 9, slots := #[.int (-106)], vm := .none },
  { cls := 9, slots := #[.int (-105)], vm := .none },
  { cls := 9, slots := #[.int (-104)], vm := .none },
  { cls := 9, slots := #[.int (-103)], vm := .none },
  { cls := 9, slots := #[.int (-102)], vm := .none },
  { cls := 9, slots := #[.int (-101)], vm := .none },
  { cls := 9, slots := #[.int (-100)], vm := .none },
  { cls := 9, slots := #[.int (-99)], vm := .none },
  { cls := 9, slots := #[.int (-98)], vm := .none },
  { cls := 9, slots := #[.int (-97)], vm := .none },
  { cls := 9, slots := #[.int (-96)], vm := .none },
  { cls := 9, slots := #[.int (-95)], vm := .none },
  { cls := 9, slots := #[.int (-94)], vm := .none },
  { cls := 9, slots := #[.int (-93)], vm := .none },
  { cls := 9, slots := #[.int (-92)], vm := .none },
  { cls := 9, slots := #[.int (-91)], vm := .none },
  { cls := 9, slots := #[.int (-90)], vm := .none },
  { cls := 9, slots := #[.int (-89)], vm := .none },
  { cls := 9, slots := #[.int (-88)], vm := .none },
  { cls := 9, slots := #[.int (-87)], vm := .none },
  { cls := 9, slots := #[.int (-86)], vm := .none },
  { cls := 9, slots := #[.int (-85)], vm := .none },
  { cls := 9, slots := #[.int (-84)], vm := .none },
  { cls := 9, slots := #[.int (-83)], vm := .none },
  { cls := 9, slots := #[.int (-82)], vm := .none },
  { cls := 9, slots := #[.int (-81)], vm := .none },
  { cls := 9, slots := #[.int (-80)], vm := .none },
  { cls := 9, slots := #[.int (-79)], vm := .none },
  { cls := 9, slots := #[.int (-78)], vm := .none },
  { cls := 9, slots := #[.int (-77)], vm := .none },
  { cls := 9, slots := #[.int (-76)], vm := .none },
  { cls := 9, slots := #[.int (-75)], vm := .none },
  { cls := 9, slots := #[.int (-74)], vm := .none },
  { cls := 9, slots := #[.int (-73)], vm := .none },
  { cls := 9, slots := #[.int (-72)], vm := .none },
  { cls := 9, slots := #[.int (-71)], vm := .none },
  { cls := 9, slots := #[.int (-70)], vm := .none },
  { cls := 9, slots := #[.int (-69)], vm := .none },
  { cls := 9, slots := #[.int (-68)], vm := .none },
  { cls := 9, slots := #[.int (-67)], vm := .none },
  { cls := 9, slots := #[.int (-66)], vm := .none },
  { cls := 9, slots := #[.int (-65)], vm := .none },
  { cls := 9, slots := #[.int (-64)], vm := .none },
  { cls := 9, slots := #[.int (-63)], vm := .none },
  { cls := 9, slots := #[.int (-62)], vm := .none },
  { cls := 9, slots := #[.int (-61)], vm := .none },
  { cls := 9, slots := #[.int (-60)], vm := .none },
  { cls := 9, slots := #[.int (-59)], vm := .none },
  { cls := 9, slots := #[.int (-58)], vm := .none },
  { cls := 9, slots := #[.int (-57)], vm := .none },
  { cls := 9, slots := #[.int (-56)], vm := .none },
  { cls := 9, slots := #[.int (-55)], vm := .none },
  { cls := 9, slots := #[.int (-54)], vm := .none },
  { cls := 9, slots := #[.int (-53)], vm := .none },
  { cls := 9, slots := #[.int (-52)], vm := .none },
  { cls := 9, slots := #[.int (-51)], vm := .none },
  { cls := 9, slots := #[.int (-50)], vm := .none },
  { cls := 9, slots := #[.int (-49)], vm := .none },
  { cls := 9, slots := #[.int (-48)], vm := .none },
  { cls := 9, slots := #[.int (-47)], vm := .none },
  { cls := 9, slots := #[.int (-46)], vm := .none },
  { cls := 9, slots := #[.int (-45)], vm := .none },
  { cls := 9, slots := #[.int (-44)], vm := .none },
  { cls := 9, slots := #[.int (-43)], vm := .none },
  { cls := 9, slots := #[.int (-42)], vm := .none },
  { cls := 9, slots := #[.int (-41)], vm := .none },
  { cls := 9, slots := #[.int (-40)], vm := .none },
  { cls := 9, slots := #[.int (-39)], vm := .none },
  { cls := 9, slots := #[.int (-38)], vm := .none },
  { cls := 9, slots := #[.int (-37)], vm := .none },
  { cls := 9, slots := #[.int (-36)], vm := .none },
  { cls := 9, slots := #[.int (-35)], vm := .none },
  { cls := 9, slots := #[.int (-34)], vm := .none },
  { cls := 9, slots := #[.int (-33)], vm := .none },
  { cls := 9, slots := #[.int (-32)], vm := .none },
  { cls := 9, slots := #[.int (-31)], vm := .none },
  { cls := 9, slots := #[.int (-30)], vm := .none },
  { cls := 9, slots := #[.int (-29)], vm := .none },
  { cls := 9, slots := #[.int (-28)], vm := .none },
  { cls := 9, slots := #[.int (-27)], vm := .none },
  { cls := 9, slots := #[.int (-26)], vm := .none },
  { cls := 9, slots := #[.int (-25)], vm := .none },
  { cls := 9, slots := #[.int (-24)], vm := .none },
  { cls := 9, slots := #[.int (-23)], vm := .none },
  { cls := 9, slots := #[.int (-22)], vm := .none },
  { cls := 9, slots := #[.int (-21)], vm := .none },
  { cls := 9, slots := #[.int (-20)], vm := .none },
  { cls := 9, slots := #[.int (-19)], vm := .none },
  { cls := 9, slots := #[.int (-18)], vm := .none },
  { cls := 9, slots := #[.int (-17)], vm := .none },
  { cls := 9, slots := #[.int (-16)], vm := .none },
  { cls := 9, slots := #[.int (-15)], vm := .none },
  { cls := 9, slots := #[.int (-14)], vm := .none },
  { cls := 9, slots := #[.int (-13)], vm := .none },
  { cls := 9, slots := #[.int (-12)], vm := .none },
  { cls := 9, slots := #[.int (-11)], vm := .none },
  { cls := 9, slots := #[.int (-10)], vm := .none },
  { cls := 9, slots := #[.int (-9)], vm := .none },
  { cls := 9, slots := #[.int (-8)], vm := .none },
  { cls := 9, slots := #[.int (-7)], vm := .none },
  { cls := 9, slots := #[.int (-6)], vm := .none },
  { cls := 9, slots := #[.int (-5)], vm := .none },
  { cls := 9, slots := #[.int (-4)], vm := .none },
  { cls := 9, slots := #[.int (-3)], vm := .none },
  { cls := 9, slots := #[.int (-2)], vm := .none },
  { cls := 9, slots := #[.int (-1)], vm := .none },
  { cls := 9, slots := #[.int (0)], vm := .none },
  { cls := 9, slots := #[.int (1)], vm := .none },
  { cls := 9, slots := #[.int (2)], vm := .none },
  { cls := 9, slots := #[.int (3)], vm := .none },
  { cls := 9, slots := #[.int (4)], vm := .none },
  { cls := 9, slots := #[.int (5)], vm := .none },
  { cls := 9, slots := #[.int (6)], vm := .none },
  { cls := 9, slots := #[.int (7)], vm := .none },
  { cls := 9, slots := #[.int (8)], vm := .none },
  { cls := 9, slots := #[.int (9)], vm := .none },
  { cls := 9, slots := #[.int (10)], vm := .none },
  { cls := 9, slots := #[.int (11)], vm := .none },
  { cls := 9, slots := #[.int (12)], vm := .none },
  { cls := 9, slots := #[.int (13)], vm := .none },
  { cls := 9, slots := #[.int (14)], vm := .none },
  { cls := 9, slots := #[.int (15)], vm := .none },
  { cls := 9, slots := #[.int (16)], vm := .none },
  { cls := 9, slots := #[.int (17)], vm := .none },
  { cls := 9, slots := #[.int (18)], vm := .none },
  { cls := 9, slots := #[.int (19)], vm := .none },
  { cls := 9, slots := #[.int (20)], vm := .none },
  { cls := 9, slots := #[.int (21)], vm := .none },
  { cls := 9, slots := #[.int (22)], vm := .none },
  { cls := 9, slots := #[.int (23)], vm := .none },
  { cls := 9, slots := #[.int (24)], vm := .none },
  { cls := 9, slots := #[.int (25)], vm := .none },
  { cls := 9, slots := #[.int (26)], vm := .none },
  { cls := 9, slots := #[.int (27)], vm := .none },
  { cls := 9, slots := #[.int (28)], vm := .none },
  { cls := 9, slots := #[.int (29)], vm := .none },
  { cls := 9, slots := #[.int (30)], vm := .none },
  { cls := 9, slots := #[.int (31)], vm := .none },
  { cls := 9, slots := #[.int (32)], vm := .none },
  { cls := 9, slots := #[.int (33)], vm := .none },
  { cls := 9, slots := #[.int (34)], vm := .none },
  { cls := 9, slots := #[.int (35)], vm := .none },
  { cls := 9, slots := #[.int (36)], vm := .none },
  { cls := 9, slots := #[.int (37)], vm := .none },
  { cls := 9, slots := #[.int (38)], vm := .none },
  { cls := 9, slots := #[.int (39)], vm := .none },
  { cls := 9, slots := #[.int (40)], vm := .none },
  { cls := 9, slots := #[.int (41)], vm := .none },
  { cls := 9, slots := #[.int (42)], vm := .none },
  { cls := 9, slots := #[.int (43)], vm := .none },
  { cls := 9, slots := #[.int (44)], vm := .none },
  { cls := 9, slots := #[.int (45)], vm := .none },
  { cls := 9, slots := #[.int (46)], vm := .none },
  { cls := 9, slots := #[.int (47)], vm := .none },
  { cls := 9, slots := #[.int (48)], vm := .none },
  { cls := 9, slots := #[.int (49)], vm := .none },
  { cls := 9, slots := #[.int (50)], vm := .none },
  { cls := 9, slots := #[.int (51)], vm := .none },
  { cls := 9, slots := #[.int (52)], vm := .none },
  { cls := 9, slots := #[.int (53)], vm := .none },
  { cls := 9, slots := #[.int (54)], vm := .none },
  { cls := 9, slots := #[.int (55)], vm := .none },
  { cls := 9, slots := #[.int (56)], vm := .none },
  { cls := 9, slots := #[.int (57)], vm := .none },
  { cls := 9, slots := #[.int (58)], vm := .none },
  { cls := 9, slots := #[.int (59)], vm := .none },
  { cls := 9, slots := #[.int (60)], vm := .none },
  { cls := 9, slots := #[.int (61)], vm := .none },
  { cls := 9, slots := #[.int (62)], vm := .none },
  { cls := 9, slots := #[.int (63)], vm := .none },
  { cls := 9, slots := #[.int (64)], vm := .none },
  { cls := 9, slots := #[.int (65)], vm := .none },
  { cls := 9, slots := #[.int (66)], vm := .none },
  { cls := 9, slots := #[.int (67)], vm := .none },
  { cls := 9, slots := #[.int (68)], vm := .none },
  { cls := 9, slots := #[.int (69)], vm := .none },
  { cls := 9, slots := #[.int (70)], vm := .none },
  { cls := 9, slots := #[.int (71)], vm := .none },
  { cls := 9, slots := #[.int (72)], vm := .none },
  { cls := 9, slots := #[.int (73)], vm := .none },
  { cls := 9, slots := #[.int (74)], vm := .none },
  { cls := 9, slots := #[.int (75)], vm := .none },
  { cls := 9, slots := #[.int (76)], vm := .none },
  { cls := 9, slots := #[.int (77)], vm := .none },
  { cls := 9, slots := #[.int (78)], vm := .none },
  { cls := 9, slots := #[.int (79)], vm := .none },
  { cls := 9, slots := #[.int (80)], vm := .none },
  { cls := 9, slots := #[.int (81)], vm := .none },
  { cls := 9, slots := #[.int (82)], vm := .none },
  { cls := 9, slots := #[.int (83)], vm := .none },
  { cls := 9, slots := #[.int (84)], vm := .none },
  { cls := 9, slots := #[.int (85)], vm := .none },
  { cls := 9, slots := #[.int (86)], vm := .none },
  { cls := 9, slots := #[.int (87)], vm := .none },
  { cls := 9, slots := #[.int (88)], vm := .none },
  { cls := 9, slots := #[.int (89)], vm := .none },
  { cls := 9, slots := #[.int (90)], vm := .none },
  { cls := 9, slots := #[.int (91)], vm := .none },
  { cls := 9, slots := #[.int (92)], vm := .none },
  { cls := 9, slots := #[.int (93)], vm := .none },
  { cls := 9, slots := #[.int (94)], vm := .none },
  { cls := 9, slots := #[.int (95)], vm := .none },
  { cls := 9, slots := #[.int (96)], vm := .none },
  { cls := 9, slots := #[.int (97)], vm := .none },
  { cls := 9, slots := #[.int (98)], vm := .none },
  { cls := 9, slots := #[.int (99)], vm := .none },
  { cls := 9, slots := #[.int (100)], vm := .none },
  { cls := 9, slots := #[.int (101)], vm := .none },
  { cls := 9, slots := #[.int (102)], vm := .none },
  { cls := 9, slots := #[.int (103)], vm := .none },
  { cls := 9, slots := #[.int (104)], vm := .none },
  { cls := 9, slots := #[.int (105)], vm := .none },
  { cls := 9, slots := #[.int (106)], vm := .none },
  { cls := 9, slots := #[.int (107)], vm := .none },
  { cls := 9, slots := #[.int (108)], vm := .none },
  { cls := 9, slots := #[.int (109)], vm := .none },
  { cls := 9, slots := #[.int (110)], vm := .none },
  { cls := 9, slots := #[.int (111)], vm := .none },
  { cls := 9, slots := #[.int (112)], vm := .none },
  { cls := 9, slots := #[.int (113)], vm := .none },
  { cls := 9, slots := #[.int (114)], vm := .none },
  { cls := 9, slots := #[.int (115)], vm := .none },
  { cls := 9, slots := #[.int (116)], vm := .none },
  { cls := 9, slots := #[.int (117)], vm := .none },
  { cls := 9, slots := #[.int (118)], vm := .none },
  { cls := 9, slots := #[.int (119)], vm := .none },
  { cls := 9, slots := #[.int (120)], vm := .none },
  { cls := 9, slots := #[.int (121)], vm := .none },
  { cls := 9, slots := #[.int (122)], vm := .none },
  { cls := 9, slots := #[.int (123)], vm := .none },
  { cls := 9, slots := #[.int (124)], vm := .none },
  { cls := 9, slots := #[.int (125)], vm := .none },
  { cls := 9, slots := #[.int (126)], vm := .none },
  { cls := 9, slots := #[.int (127)], vm := .none }]
def classes : Array Class := #[k0, k1, k2, k3, k4, k5, k6, k7, k8, k9, k10, k11, k12, k13, k14, k15, k16]
def interned : List (Array UInt16 × Addr) := []
def slotsUsed : Nat := 517
def theMethod : MethodId := ⟨1, 1⟩
def args0 : Array Value := #[.long 5, .long 6, .long 7, .int 8, .int 1, .int 2]
def aboutOver (below : List Frame) : State where
  vm := { classes := classes, interned := interned.toArray }
  heap := heap
  slotsUsed := slotsUsed
  threads := #[{ frames := .invoking theMethod args0 :: below }]
def below0 : List Frame := [.native { method := ⟨0, 0⟩, args := #[] }]
def about1 : State := aboutOver below0
def p0 : Program := .bare "" "" ""
def e0 : Env := launch0.env 0 0 0
theorem w_frames : about1.frames = Frame.invoking theMethod args0 :: below0 := rfl
set_option maxRecDepth 65536 in
theorem w_args : argsFit about1.vm theMethod args0 = true := by decide +kernel
set_option maxRecDepth 65536 in
theorem w_heap : heapFits about1 = true := by decide +kernel
set_option maxRecDepth 65536 in
theorem w_runnable : about1.curStatus? = some .runnable := by decide +kernel
set_option maxRecDepth 65536 in
theorem w_alone : about1.alone = true := by decide +kernel
set_option maxRecDepth 65536 in
theorem w_named : about1.methodNamed? x = some theMethod := by decide +kernel
set_option maxRecDepth 65536 in
theorem w_hears : about1.hears theMethod below0 = true := by decide +kernel
set_option maxRecDepth 65536 in
theorem w_ripe : about1.ripe theMethod args0 below0 = true := by decide +kernel
theorem w_running : about1.status = .running := rfl
set_option maxRecDepth 65536 in
theorem w_room : about1.hasRoom e0.platform room_1 = true :=
  launch0.hasRoom_least _ room_1 (by decide +kernel) (by decide +kernel) (by decide +kernel) (by decide +kernel) (by decide +kernel) (by decide +kernel)
theorem allAtoms_all (ts : List Jvm.Cond) (a : Array Jvm.Value) (st : Jvm.State) : (allAtoms ts).before a st = ts.all (fun c => c.before a st) := by
  induction ts with
  | nil => rfl
  | cons c t ih =>
    show (Jvm.Cond.and c (allAtoms t)).before a st = _
    rw [Jvm.Cond.before_and, ih, List.all_cons]
def words1 : List Jvm.Cond := Jvm.Cond.code x code maxLocals ret :: tables_1
/-- a 'code' word, met by the world's own term for the bytes: nothing is compared byte by byte -/
theorem code_word {y : MethodName} {bytes : ByteArray} {mx : Nat} {rt : Option FieldType} {a : Array Value} {s : State} {m : MethodId} {meth : Method} {c : Code} (h1 : s.methodNamed? y = some m) (h2 : s.vm.method? m = some meth) (h3 : meth.code = some c) (h4 : c.code = bytes)
    (h5 : (c.maxLocals == mx && c.exceptionTable.isEmpty && decide (c.maxStack ≤ mostOperands) && decide (meth.sig.returnType = rt) && !meth.locks && decide (parseMethodDescriptor y.desc = some meth.sig)) = true) : (Jvm.Cond.code y bytes mx rt).before a s = true := by
  simp only [Bool.and_eq_true, beq_iff_eq, Bool.not_eq_true', decide_eq_true_eq] at h5
  obtain ⟨⟨⟨⟨⟨g1, g2⟩, g3⟩, g4⟩, g5⟩, g6⟩ := h5
  simp [Cond.before, Cond.holds, Cond.value, h1, h2, h3, h4, g1, g2, g3, g4, g5, g6]
def isCode : Jvm.Cond → Bool
  | .code _ _ _ _ => true
  | _ => false
theorem all_split {L : List Jvm.Cond} {P : Jvm.Cond → Bool} (h1 : L.all (fun c => isCode c || P c) = true) (h2 : ∀ c ∈ L.filter isCode, P c = true) : L.all P = true := by
  refine List.all_eq_true.mpr fun c hc => ?_
  have h := List.all_eq_true.mp h1 c hc
  rcases Bool.eq_false_or_eq_true (isCode c) with hi | hi
  · exact h2 c (List.mem_filter.mpr ⟨hc, hi⟩)
  · simpa [hi] using h
set_option maxRecDepth 65536 in
theorem w_c0 : (Jvm.Cond.code x code maxLocals ret).before args0 about1 = true := code_word (m := ⟨1, 1⟩) (meth := k1m1) (c := k1c1) (by decide +kernel) rfl rfl rfl (by decide +kernel)
set_option maxRecDepth 65536 in
theorem w_c1 : (Jvm.Cond.code ({ cls := "java/lang/Math", name := "min", desc := "(II)I" } : Jvm.MethodName) jdk_29_method_69_code (2 : Nat) (Option.some Jvm.ClassFile.FieldType.int)).before args0 about1 = true := code_word (m := ⟨2, 2⟩) (meth := k2m2) (c := k2c2) (by decide +kernel) rfl rfl rfl (by decide +kernel)
set_option maxRecDepth 65536 in
theorem w_c2 : (Jvm.Cond.code ({ cls := "java/lang/Math", name := "max", desc := "(II)I" } : Jvm.MethodName) jdk_29_method_65_code (2 : Nat) (Option.some Jvm.ClassFile.FieldType.int)).before args0 about1 = true := code_word (m := ⟨2, 1⟩) (meth := k2m1) (c := k2c1) (by decide +kernel) rfl rfl rfl (by decide +kernel)
set_option maxRecDepth 65536 in
theorem w_c3 : (Jvm.Cond.code ({ cls := "com/example/helm_of_panes/helmofpanes/input/AbsoluteAxis", name := "<init>", desc := "(IIIIII)V" } : Jvm.MethodName) prog_19_method_1_code (7 : Nat) (Option.none : Option Jvm.ClassFile.FieldType)).before args0 about1 = true := code_word (m := ⟨3, 0⟩) (meth := k3m0) (c := k3c0) (by decide +kernel) rfl rfl rfl (by decide +kernel)
set_option maxRecDepth 65536 in
theorem w_c4 : (Jvm.Cond.code ({ cls := "java/lang/Object", name := "<init>", desc := "()V" } : Jvm.MethodName) object_method_1_code (1 : Nat) (Option.none : Option Jvm.ClassFile.FieldType)).before args0 about1 = true := code_word (m := ⟨0, 0⟩) (meth := k0m0) (c := k0c0) (by decide +kernel) rfl rfl rfl (by decide +kernel)
set_option maxRecDepth 65536 in
theorem w_c5 : (Jvm.Cond.code ({ cls := "java/lang/Integer", name := "valueOf", desc := "(I)Ljava/lang/Integer;" } : Jvm.MethodName) jdk_33_method_22_code (1 : Nat) (Option.some (Jvm.ClassFile.FieldType.object "java/lang/Integer"))).before args0 about1 = true := code_word (m := ⟨9, 0⟩) (meth := k9m0) (c := k9c0) (by decide +kernel) rfl rfl rfl (by decide +kernel)
set_option maxRecDepth 65536 in
theorem w_c6 : (Jvm.Cond.code ({ cls := "com/example/helm_of_panes/helmofpanes/input/AbsoluteAxis", name := "equals", desc := "(Ljava/lang/Object;)Z" } : Jvm.MethodName) prog_19_method_9_code (3 : Nat) (Option.some Jvm.ClassFile.FieldType.boolean)).before args0 about1 = true := code_word (m := ⟨3, 1⟩) (meth := k3m1) (c := k3c1) (by decide +kernel) rfl rfl rfl (by decide +kernel)
set_option maxRecDepth 65536 in
theorem w_c7 : (Jvm.Cond.code ({ cls := "java/lang/Integer", name := "<init>", desc := "(I)V" } : Jvm.MethodName) jdk_33_method_23_code (2 : Nat) (Option.none : Option Jvm.ClassFile.FieldType)).before args0 about1 = true := code_word (m := ⟨9, 1⟩) (meth := k9m1) (c := k9c1) (by decide +kernel) rfl rfl rfl (by decide +kernel)
set_option maxRecDepth 65536 in
theorem w_c8 : (Jvm.Cond.code ({ cls := "java/lang/Number", name := "<init>", desc := "()V" } : Jvm.MethodName) jdk_18_method_1_code (1 : Nat) (Option.none : Option Jvm.ClassFile.FieldType)).before args0 about1 = true := code_word (m := ⟨5, 0⟩) (meth := k5m0) (c := k5c0) (by decide +kernel) rfl rfl rfl (by decide +kernel)
def codes1 : List Jvm.Cond := [Jvm.Cond.code x code maxLocals ret, Jvm.Cond.code ({ cls := "java/lang/Math", name := "min", desc := "(II)I" } : Jvm.MethodName) jdk_29_method_69_code (2 : Nat) (Option.some Jvm.ClassFile.FieldType.int), Jvm.Cond.code ({ cls := "java/lang/Math", name := "max", desc := "(II)I" } : Jvm.MethodName) jdk_29_method_65_code (2 : Nat) (Option.some Jvm.ClassFile.FieldType.int), Jvm.Cond.code ({ cls := "com/example/helm_of_panes/helmofpanes/input/AbsoluteAxis", name := "<init>", desc := "(IIIIII)V" } : Jvm.MethodName) prog_19_method_1_code (7 : Nat) (Option.none : Option Jvm.ClassFile.FieldType), Jvm.Cond.code ({ cls := "java/lang/Object", name := "<init>", desc := "()V" } : Jvm.MethodName) object_method_1_code (1 : Nat) (Option.none : Option Jvm.ClassFile.FieldType), Jvm.Cond.code ({ cls := "java/lang/Integer", name := "valueOf", desc := "(I)Ljava/lang/Integer;" } : Jvm.MethodName) jdk_33_method_22_code (1 : Nat) (Option.some (Jvm.ClassFile.FieldType.object "java/lang/Integer")), Jvm.Cond.code ({ cls := "com/example/helm_of_panes/helmofpanes/input/AbsoluteAxis", name := "equals", desc := "(Ljava/lang/Object;)Z" } : Jvm.MethodName) prog_19_method_9_code (3 : Nat) (Option.some Jvm.ClassFile.FieldType.boolean), Jvm.Cond.code ({ cls := "java/lang/Integer", name := "<init>", desc := "(I)V" } : Jvm.MethodName) jdk_33_method_23_code (2 : Nat) (Option.none : Option Jvm.ClassFile.FieldType), Jvm.Cond.code ({ cls := "java/lang/Number", name := "<init>", desc := "()V" } : Jvm.MethodName) jdk_18_method_1_code (1 : Nat) (Option.none : Option Jvm.ClassFile.FieldType)]
set_option maxRecDepth 65536 in
theorem codes_eq : words1.filter isCode = codes1 := rfl
theorem w_codes : ∀ c ∈ words1.filter isCode, c.before args0 about1 = true := by
  rw [codes_eq]
  intro c hc
  simp only [codes1, List.mem_cons, List.not_mem_nil, or_false] at hc
  rcases hc with rfl | rfl | rfl | rfl | rfl | rfl | rfl | rfl | rfl
  · exact w_c0
  · exact w_c1
  · exact w_c2
  · exact w_c3
  · exact w_c4
  · exact w_c5
  · exact w_c6
  · exact w_c7
  · exact w_c8
set_option maxRecDepth 65536 in
theorem w_t1 : (words1.take 24).all (fun c => isCode c || c.before args0 about1) = true := by decide +kernel
set_option maxRecDepth 65536 in
theorem w_t2 : ((words1.drop 24).take 24).all (fun c => isCode c || c.before args0 about1) = true := by decide +kernel
set_option maxRecDepth 65536 in
theorem w_t3 : ((words1.drop 24).drop 24).all (fun c => isCode c || c.before args0 about1) = true := by decide +kernel
theorem w_tables : (allAtoms (Jvm.Cond.code x code maxLocals ret :: tables_1)).before args0 about1 = true := by
  rw [allAtoms_all]
  show words1.all (fun c => c.before args0 about1) = true
  refine all_split ?_ w_codes
  rw [← List.take_append_drop 24 words1, List.all_append, w_t1, ← List.take_append_drop 24 (words1.drop 24), List.all_append, w_t2, w_t3]
  rfl
set_option maxRecDepth 65536 in
theorem w_rest : rest_1_c.before args0 about1 = true := by decide +kernel
set_option maxRecDepth 65536 in
theorem w_case : (Jvm.Cond.and given_1 narrow_1).before args0 about1 = true := by decide +kernel
theorem w_applies : (headSpec (Jvm.Cond.code x code maxLocals ret :: tables_1) room_1).applies x e0.platform about1 = true :=
  (Spec.applies_iff w_frames).mpr ⟨w_running, w_runnable, w_alone, w_named, w_hears, w_ripe, w_room, w_tables⟩
theorem atStart : AtStart classFile x code maxLocals ret World_1 tables_1 room_1 Calls_1 rest_1 Pre_1 launch0 p0 e0 about1 theMethod args0 below0 :=
  ⟨lists_1, trivial, launch0.admits_env _ _ _, launch0.least_env, fairChoices_fair.cas, fairChoices_fair.clock, w_frames, w_args, w_heap, w_applies, trivial, w_rest, w_case⟩
end start1
theorem witness_1 : WitnessClaimed_1 := ⟨start1.p0, start1.e0, start1.about1, start1.theMethod, start1.args0, start1.below0, start1.atStart⟩
end Jvm.Pilot.@@N@@
