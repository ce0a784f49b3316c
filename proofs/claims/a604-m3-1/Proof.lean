import JvmDerived
import JvmDerived.Pilot.@@N@@Statement
import JvmDerived.Pilot.@@N@@Code
set_option linter.unusedVariables false
set_option linter.unusedSimpArgs false
namespace Jvm.Pilot.@@N@@
open Jvm Jvm.ClassFile Sem Op Lib Jvm.Free Jvm.Stand Jvm.LawKit Jvm.RoadKit Bundle Jvm.Pilot.@@N@@.Jvm.D
section OwnBase
variable {tb : Tables} {e : Env} {below : List Frame} {A B : State} {K : State → Outcome → Prop}
/-- from A the run comes to an end of which K holds -/
def own_Ends (tb : Tables) (e : Env) (below : List Frame) (A : State) (K : State → Outcome → Prop) : Prop := ∃ t o, Steps tb e below A t ∧ K t o
theorem own_open {P : State → Outcome → Prop} (h : ∀ K : State → Outcome → Prop, (∀ t o, P t o → K t o) → own_Ends tb e below A K) : ∃ t o, Steps tb e below A t ∧ P t o := h P fun _ _ q => q
theorem own_go (h : ∀ t, Steps tb e below B t → Steps tb e below A t) (k : own_Ends tb e below B K) : own_Ends tb e below A K := by
  obtain ⟨t, o, h1, h2⟩ := k; exact ⟨t, o, h t h1, h2⟩
theorem own_n0 {Z : State} {n0 : Nat} {h : Heap} (O : Old Z n0 h) : n0 ≤ h.size := O.1 ▸ O.2.1
theorem own_bt {P : Prop} [Decidable P] (h : P) : ¬ ((if P then (1 : Int32) else 0) = 0) := by rw [if_pos h]; decide
theorem own_bf {P : Prop} [Decidable P] (h : ¬ P) : (if P then (1 : Int32) else 0) = 0 := by rw [if_neg h]
theorem own_lt_n0 {Z : State} {n0 : Nat} {h : Heap} {a : Addr} (O : Old Z n0 h) (q : a < Z.heap.size) : a < n0 := O.1 ▸ q
section OwnRet
variable {p : Program} {l : Launch} {R : Room} {s : State} {m : MethodId} {args : Array Value} {meth : Method} {c : Code} {T : State} {locs : List Loc} {cells slots : Nat}
theorem own_retI (X : Stand p l e R s m args below meth c T locs cells slots) (hx : p.tables.exec = Jvm.exec) {pc : Nat} {Ls : Array Slot} {z : Int32} {rest : List Value} (hret : meth.sig.returnType = some .int) (hd : decode c.code pc = .ok (.ireturn, 1)) {fs : List Frame}
    (hl : ∀ (f : JFrame) (acts : List Action), f.method = m → f.locked = none → f.entered = [] → (doReturn e (T.setTop f) acts (some (.int z))).1 = T.setFrames fs) : Steps p.tables e below (T.setTop (mkF m pc Ls (.int z :: rest))) (T.setFrames fs) :=
  retOut X hx hret rfl (Or.inl ⟨rfl, Or.inl rfl, z, rfl⟩) hd hl
theorem own_retL (X : Stand p l e R s m args below meth c T locs cells slots) (hx : p.tables.exec = Jvm.exec) {pc : Nat} {Ls : Array Slot} {z : Int64} {rest : List Value} (hret : meth.sig.returnType = some .long) (hd : decode c.code pc = .ok (.lreturn, 1)) {fs : List Frame}
    (hl : ∀ (f : JFrame) (acts : List Action), f.method = m → f.locked = none → f.entered = [] → (doReturn e (T.setTop f) acts (some (.long z))).1 = T.setFrames fs) : Steps p.tables e below (T.setTop (mkF m pc Ls (.long z :: rest))) (T.setFrames fs) :=
  retOut X hx hret rfl (Or.inr (Or.inl ⟨rfl, rfl, z, rfl⟩)) hd hl
theorem own_retA (X : Stand p l e R s m args below meth c T locs cells slots) (hx : p.tables.exec = Jvm.exec) {pc : Nat} {Ls : Array Slot} {w : Value} {t : FieldType} {rest : List Value} (hret : meth.sig.returnType = some t) (ht : t.isReference = true) (hw : w.isRef = true) (hd : decode c.code pc = .ok (.areturn, 1)) {fs : List Frame}
    (hl : ∀ (f : JFrame) (acts : List Action), f.method = m → f.locked = none → f.entered = [] → (doReturn e (T.setTop f) acts (some w)).1 = T.setFrames fs) : Steps p.tables e below (T.setTop (mkF m pc Ls (w :: rest))) (T.setFrames fs) := by
  have hn : narrow t w = w := by cases t <;> first | rfl | exact Bool.noConfusion ht
  exact retOut X hx hret hn (Or.inr (Or.inr (Or.inr (Or.inr ⟨rfl, ht, hw⟩)))) hd hl
end OwnRet
end OwnBase
theorem own_eqI {Z : State} {args : Array Value} {t : Term} {k : Int32} (h : (Jvm.Cond.eq t (Term.int k)).value args Z none Z [] = some true) : t.eval args Z none [] Z = some (.int k) := by
  obtain ⟨y, z, h1, h2, -, -⟩ := cmp_v (Or.inl h)
  have h3 : z = .int k := Option.some.inj (h2.symm.trans (Term.int_eval k))
  subst h3
  rw [h1]
  simp only [Jvm.Cond.value] at h
  rw [h1, h2] at h
  cases y <;> simp at h ⊢
  exact h
/-- what the case says of Integer's cache -/
def own_Cache (Z : State) (w_cache : Addr) (cl : Cell) : Prop := Sta Z Z.heap "java/lang/Integer$IntegerCache" "high" "I" (.int (127 : Int32)) ∧ Sta Z Z.heap "java/lang/Integer$IntegerCache" "cache" "[Ljava/lang/Integer;" (.ref w_cache) ∧ Arr Z Z.heap w_cache cl (.object "java/lang/Integer") ∧
  ∀ w : Int32, ¬ w < (-128 : Int32) → ¬ (127 : Int32) < w → ∃ r : Addr, ¬ ((w + (128 : Int32)) < 0 ∨ cl.slots.size ≤ (w + (128 : Int32)).toNatClampNeg) ∧ cl.slots[(w + (128 : Int32)).toNatClampNeg]? = some (.ref r) ∧ Exa Z Z.heap r "java/lang/Integer"
theorem own_cache {Z : State} {args : Array Value} (hs : ∀ d ∈ Jvm.Free.IntBox.intClinit, d.before args Z = true) (hi : (Jvm.Cond.initialized "java/lang/Integer$IntegerCache").before args Z = true) : ∃ w_cache cl, own_Cache Z w_cache cl := by
  have hv : ∀ d ∈ Jvm.Free.IntBox.intClinit, d.value args Z none Z [] = some true := fun d hd => Cond.before_iff.mp (hs d hd)
  have e1 := own_eqI (hv (.eq (Term.static Jvm.Free.IntBox.ICC "high" "I") (.int 127)) (List.mem_of_getElem? (i := 3) rfl))
  have a4 := hv (.arrayOf Jvm.Free.IntBox.cacheT (.object Jvm.Free.IntBox.IC)) (List.mem_of_getElem? (i := 4) rfl)
  obtain ⟨w, ev⟩ := arr_v a4
  obtain ⟨cl, A⟩ := Arr.start ev a4
  have hat : Z.arrayAt? w = some cl := A.fin (Vm.Alike.refl _)
  have hsz := Jvm.Free.IntBox.length_fwd (hs (.eq (.length Jvm.Free.IntBox.cacheT) (.int 256)) (List.mem_of_getElem? (i := 6) rfl)) ev A.1 A.2.1 A.2.2
  have h256 : cl.slots.size = 256 := by
    have q := len_toInt hsz.1
    rw [hsz.2] at q
    have : (256 : Int32).toInt = 256 := by decide
    omega
  refine ⟨w, cl, Sta.start e1 (Or.inl (hs _ (List.mem_of_getElem? (i := 1) rfl))), Sta.start ev (Or.inr ⟨hi, hs _ (List.mem_of_getElem? (i := 2) rfl)⟩), A, fun v h1 h2 => ?_⟩
  obtain ⟨hb, hlt⟩ := Jvm.Free.IntBox.place_ok v h1 h2
  have hall := Cond.all_elim (c := .and (.exactly (.elem Jvm.Free.IntBox.cacheT (.index 0)) Jvm.Free.IntBox.IC) (.eq (.field (.elem Jvm.Free.IntBox.cacheT (.index 0)) Jvm.Free.IntBox.IC "value" "I") (.sub (.index 0) (.int 128)))) ev hat (hv _ (List.mem_of_getElem? (i := 7) rfl))
  have hj := hall _ (by rw [h256]; exact hlt)
  have hx := (and_e hj).1
  obtain ⟨r, er⟩ := exa_v hx
  have hE := exa_at er hx
  refine ⟨r, by rw [h256]; exact hb, ?_, hE⟩
  obtain ⟨hnn, hback⟩ := Jvm.Free.IntBox.place_nonneg _ hlt
  have ev' : Jvm.Free.IntBox.cacheT.eval args Z none [(v + 128).toNatClampNeg] Z = some (.ref w) := ev
  have : (Term.elem Jvm.Free.IntBox.cacheT (.index 0)).eval args Z none [(v + 128).toNatClampNeg] Z = cl.slots[(v + 128).toNatClampNeg]? := by
    simp [Term.eval, ev', hnn, hat, hback]
  rw [← this]; exact er
/-- an Integer is of no class of another name that isn't above it -/
theorem own_noInt {Z : State} {a0 : Array Value} {h : Heap} {a : Addr} {K : String} {kk : Nat} (E : Exa Z h a "java/lang/Integer") (w1 : (Jvm.Cond.superclass "java/lang/Integer" "java/lang/Number").before a0 Z = true) (w2 : (Jvm.Cond.superclass "java/lang/Number" "java/lang/Object").before a0 Z = true) (w3 : (Jvm.Cond.noSuperclass "java/lang/Object").before a0 Z = true)
    (wi : (Jvm.Cond.instantiable K kk).before a0 Z = true) (n1 : K ≠ "java/lang/Integer") (n2 : K ≠ "java/lang/Number") (n3 : K ≠ "java/lang/Object") : Ins Z h a K false := by
  obtain ⟨cell, k, h1, h2, h3, h4, -⟩ := E
  obtain ⟨cK, kK, i1, i2, i3, i4', -, -⟩ := Cond.instantiable_spec wi
  have i4 : kK.isInterface = false := (Bool.or_eq_false_iff.mp i4').1
  obtain ⟨cN, kI, kN, fN, gI, gN, sI, oI, -, -⟩ := Cond.superclass_spec h2 w1
  obtain ⟨cO, kN', kO, fO, gN', gO, sN, -, -, -⟩ := Cond.superclass_spec fN w2
  cases gN.symm.trans gN'
  obtain ⟨cO', kO', fO', gO', sO, -, -⟩ := Cond.noSuperclass_spec w3
  cases fO.symm.trans fO'
  cases gO.symm.trans gO'
  have nm : ∀ {C D : String} {x y : ClassId}, Z.vm.findClass C = some x → Z.vm.findClass D = some y → C ≠ D → x ≠ y := fun {C D x y} p q r e => by
    subst e
    obtain ⟨k1, a1, a2⟩ := Vm.findClass_spec p
    obtain ⟨k2, b1, b2⟩ := Vm.findClass_spec q
    cases a1.symm.trans b1
    exact r (a2.symm.trans b2)
  have d1 := nm h2 i1 (Ne.symm n1)
  have d2 := nm fN i1 (Ne.symm n2)
  have d3 := nm fO i1 (Ne.symm n3)
  refine ⟨cell, cK, h1, i1, ?_⟩
  have sub : ∀ fuel, Z.vm.isSubclassAux fuel cell.cls cK = false := fun fuel => by
    match fuel with
    | 0 => rfl
    | 1 => simp [Vm.isSubclassAux, d1, d2, gI, sI]
    | 2 => simp [Vm.isSubclassAux, d1, d2, d3, gI, sI, gN, sN]
    | f + 3 => simp [Vm.isSubclassAux, d1, d2, d3, gI, sI, gN, sN, gO, sO]
  have : Z.vm.assignableAux (255 + 1) cell.cls cK = false := by simp [Vm.assignableAux, d1, gI, i2, oI, i3, i4, Vm.isSubclass, sub]
  have e : Z.vm.assignable cell.cls cK = false := this
  simp [e]

theorem own_d5_0 : decode jdk_18_method_1_code 0 = .ok (.aload_n 0, 1) := by decide +kernel
theorem own_d5_1 : decode jdk_18_method_1_code 1 = .ok (.invokespecial 1, 3) := by decide +kernel
theorem own_d5_4 : decode jdk_18_method_1_code 4 = .ok (.return_, 1) := by decide +kernel
theorem own_pn_0 : plainName "java/lang/Number" = true := by first | (simp [plainName, overriddenIn]; done) | decide +kernel
theorem own_ef_numinit (m : MethodId) (x0 : Addr)  : entryFrame m #[(.ref x0)] 1 = mkF m 0 #[.val (.ref x0)] [] := by first | (simp [entryFrame, mkF, argsToLocals, Value.category]; done) | rfl
def own_Q_numinit (Z : State) (a : Addr) (h0 : Heap) (n0 : Nat) (v : Option Value) (h : Heap) (L : List Loc) : Prop := v = none ∧ Fr n0 L ∧ h = h0
set_option maxRecDepth 65536 in
set_option maxHeartbeats 40000000 in
theorem own_rm_numinit (l : Launch) (Z : State) (a0 : Array Value) (hw : ∀ d ∈ tables_1, d.before a0 Z = true) (ws : List Jvm.Cond) (a : Addr) (h0 : Heap) (n0 : Nat) (O0 : Old Z n0 h0) :
    MetFree l (⟨"java/lang/Number", "<init>", "()V"⟩ : MethodName) (head1 (Jvm.Cond.code (⟨"java/lang/Number", "<init>", "()V"⟩ : MethodName) jdk_18_method_1_code 1 none :: ws) ({ frames := 1, cells := 0, slots := 0, locals := 12 } : Room)) (fun ar9 U => ar9 = #[(.ref a)] ∧ Z.Warmed39 U.vm ∧ U.heap = h0) (fun _ _ _ _ _ => True) (fun _ U o U' => ∃ v L, o = .returned v ∧ own_Q_numinit Z a h0 n0 v U'.heap L ∧ FrameEnd U o U' L ({ frames := 1, cells := 0, slots := 0, locals := 12 } : Room).cells ({ frames := 1, cells := 0, slots := 0, locals := 12 } : Room).slots) := by
  refine MetFree.of_bodySF (plainFor_of_name own_pn_0) hisR ?_
  intro p e s m args below meth c s₁ Bd hml0 hP hK0
  obtain ⟨rfl, hZ, hh⟩ := hP
  have hx := Bd.exec
  have hby := Bd.bytes
  have hml : c.maxLocals = 1 := hml0
  have hown : s.vm.findClass "java/lang/Number" = some m.cls := findClass_of_methodNamed Bd.named
  have hnm := (name_of_methodNamed Bd.named Bd.method).1
  have X0 : Stand p l e ({ frames := 1, cells := 0, slots := 0, locals := 12 } : Room) s m #[(.ref a)] below meth c s₁ [] 0 0 := Stand.of_body Bd
  have e0 : s₁.heap = h0 := by rw [← hh, Bd.state]; rfl
  have N0 := Fr.nil n0
  refine own_open fun K hK => ?_
  refine own_go (B := s₁.setTop (mkF m 0 #[.val (.ref a)] [])) (fun t k => castTop (own_ef_numinit m a) k) ?_
  refine own_go (B := s₁.setTop (mkF m 1 #[.val (.ref a)] [(.ref a)])) (fun t k => XS.aloadN X0.here hx rfl (hb hby own_d5_0) rfl rfl k) ?_
  obtain ⟨T1, X1, e1, st1⟩ := initO X0 hx hZ hown (hw _ (List.mem_of_getElem? (i := 43) rfl)) (hw _ (List.mem_of_getElem? (i := 9) rfl)) (hw _ (List.mem_of_getElem? (i := 10) rfl)) e0 (g := (mkF m 1 #[.val (.ref a)] [(.ref a)])) rfl (by rw [hml]; rfl) rfl (hb hby own_d5_1) (by decide) (W := 0) (by show 2 * 0 + _ ≤ _; exact Nat.le_of_eq rfl) (by decide)
  refine own_go (B := T1.setTop (mkF m 4 #[.val (.ref a)] [])) (fun t k => st1 _ k) ?_
  obtain ⟨fs, hr, hrun, hended, hW, hsame⟩ := X1.leave (v := none) (fun _ => rfl)
  refine ⟨_, _, X1.returnOut hx Bd.returns (hb hby own_d5_4) hr, hK _ _ ⟨hrun, hended, _, _, rfl, ?_, ⟨_, rfl⟩, hW, hsame.mono (by decide) (by decide)⟩⟩
  show own_Q_numinit Z a h0 n0 _ T1.heap _
  rw [e1]
  exact ⟨rfl, N0, rfl⟩
theorem own_d3_0 : decode jdk_33_method_23_code 0 = .ok (.aload_n 0, 1) := by decide +kernel
theorem own_d3_1 : decode jdk_33_method_23_code 1 = .ok (.invokespecial 202, 3) := by decide +kernel
theorem own_pd_0 : parseMethodDescriptor "()V" = some ⟨[], none⟩ := by decide +kernel
theorem own_d3_4 : decode jdk_33_method_23_code 4 = .ok (.aload_n 0, 1) := by decide +kernel
theorem own_d3_5 : decode jdk_33_method_23_code 5 = .ok (.iload_n 1, 1) := by decide +kernel
theorem own_d3_6 : decode jdk_33_method_23_code 6 = .ok (.putfield 205, 3) := by decide +kernel
theorem own_d3_9 : decode jdk_33_method_23_code 9 = .ok (.return_, 1) := by decide +kernel
theorem own_pn_1 : plainName "java/lang/Integer" = true := by first | (simp [plainName, overriddenIn]; done) | decide +kernel
theorem own_ef_intinit (m : MethodId) (x0 : Addr) (x1 : Int32)  : entryFrame m #[(.ref x0), (.int x1)] 2 = mkF m 0 #[.val (.ref x0), .val (.int x1)] [] := by first | (simp [entryFrame, mkF, argsToLocals, Value.category]; done) | rfl
def own_Q_intinit (Z : State) (a : Addr) (x : Int32) (h0 : Heap) (n0 : Nat) (v : Option Value) (h : Heap) (L : List Loc) : Prop := v = none ∧ Fr n0 L ∧ Keep h0 h [a] ∧ Exa Z h a "java/lang/Integer" ∧ Fld Z h a "java/lang/Integer" "value" "I" (.int x)
set_option maxRecDepth 65536 in
set_option maxHeartbeats 40000000 in
theorem own_rm_intinit (l : Launch) (Z : State) (a0 : Array Value) (hw : ∀ d ∈ tables_1, d.before a0 Z = true) (ws : List Jvm.Cond) (a : Addr) (x : Int32) (h0 : Heap) (n0 : Nat) (O0 : Old Z n0 h0) (E0 : Exa Z h0 a "java/lang/Integer") (g0 : n0 ≤ a) (F0 : Fld Z h0 a "java/lang/Integer" "value" "I" (.int (0 : Int32))) :
    MetFree l (⟨"java/lang/Integer", "<init>", "(I)V"⟩ : MethodName) (head1 (Jvm.Cond.code (⟨"java/lang/Integer", "<init>", "(I)V"⟩ : MethodName) jdk_33_method_23_code 2 none :: ws) ({ frames := 2, cells := 0, slots := 0, locals := 24 } : Room)) (fun ar9 U => ar9 = #[(.ref a), (.int x)] ∧ Z.Warmed39 U.vm ∧ U.heap = h0) (fun _ _ _ _ _ => True) (fun _ U o U' => ∃ v L, o = .returned v ∧ own_Q_intinit Z a x h0 n0 v U'.heap L ∧ FrameEnd U o U' L ({ frames := 2, cells := 0, slots := 0, locals := 24 } : Room).cells ({ frames := 2, cells := 0, slots := 0, locals := 24 } : Room).slots) := by
  refine MetFree.of_bodySF (plainFor_of_name own_pn_1) hisR ?_
  intro p e s m args below meth c s₁ Bd hml0 hP hK0
  obtain ⟨rfl, hZ, hh⟩ := hP
  have hx := Bd.exec
  have hby := Bd.bytes
  have hml : c.maxLocals = 2 := hml0
  have hown : s.vm.findClass "java/lang/Integer" = some m.cls := findClass_of_methodNamed Bd.named
  have hnm := (name_of_methodNamed Bd.named Bd.method).1
  have X0 : Stand p l e ({ frames := 2, cells := 0, slots := 0, locals := 24 } : Room) s m #[(.ref a), (.int x)] below meth c s₁ [] 0 0 := Stand.of_body Bd
  have e0 : s₁.heap = h0 := by rw [← hh, Bd.state]; rfl
  have N0 := Fr.nil n0
  have K0 := Keep.refl h0 [a]
  refine own_open fun K hK => ?_
  refine own_go (B := s₁.setTop (mkF m 0 #[.val (.ref a), .val (.int x)] [])) (fun t k => castTop (own_ef_intinit m a x) k) ?_
  refine own_go (B := s₁.setTop (mkF m 1 #[.val (.ref a), .val (.int x)] [(.ref a)])) (fun t k => XS.aloadN X0.here hx rfl (hb hby own_d3_0) rfl rfl k) ?_
  obtain ⟨_, _, ⟨T3, L3, k3, n3⟩, -, X3, ⟨Lc3, hQ3, l3, y3, z3⟩, st3⟩ := X0.specialBack hx (y := (⟨"java/lang/Number", "<init>", "()V"⟩ : MethodName)) rfl hown (mvT hZ (hw _ (List.mem_of_getElem? (i := 37) rfl))) (mvT hZ (hw _ (List.mem_of_getElem? (i := 38) rfl))) (mvT hZ (hw _ (List.mem_of_getElem? (i := 42) rfl))) (by decide) (backOf (W := 0) (own_rm_numinit l Z a0 hw [] a h0 n0 O0) hZ (hw _ (List.mem_of_getElem? (i := 42) rfl)) (hw _ (List.mem_of_getElem? (i := 41) rfl)) (by decide) (by decide)) (g := (mkF m 1 #[.val (.ref a), .val (.int x)] [(.ref a)])) rfl (by rw [hml]; rfl) (Steps.refl _) (a := a) (argsL := []) (rest := []) (lenOf own_pd_0 rfl) rfl (by show 2 * 0 + _ ≤ _; exact Nat.le_of_eq rfl) (hb hby own_d3_1) (fun _ _ => ⟨rfl, e0, (by decide : 0 + 0 ≤ _), (by decide : 0 + 0 ≤ _)⟩)
  dsimp only [Pt.U, Pt.locs, Pt.cells, Pt.slots] at X3 l3 y3 z3 st3 hQ3
  subst l3 y3 z3
  obtain ⟨rfl, N3q, eh3⟩ := hQ3
  have N3 := Fr.app N0 N3q
  refine own_go (B := T3.setTop (mkF m 4 #[.val (.ref a), .val (.int x)] [])) (fun t k => st3.trans k) ?_
  refine own_go (B := T3.setTop (mkF m 5 #[.val (.ref a), .val (.int x)] [(.ref a)])) (fun t k => XS.aloadN X3.here hx rfl (hb hby own_d3_4) rfl rfl k) ?_
  refine own_go (B := T3.setTop (mkF m 6 #[.val (.ref a), .val (.int x)] [(.int x), (.ref a)])) (fun t k => XS.iloadN X3.here hx rfl (hb hby own_d3_5) rfl k) ?_
  obtain ⟨T4, h4, X4, e4, W4, st4⟩ := putF X3 hx hZ hown (host := "") (Or.inl (hw _ (List.mem_of_getElem? (i := 44) rfl))) Via.refl eh3 F0 E0 (Or.inr ⟨(hw _ (List.mem_of_getElem? (i := 45) rfl)), rfl, hnm⟩) (hw _ (List.mem_of_getElem? (i := 32) rfl)) (ty := .int) (by decide) rfl rfl (g := (mkF m 6 #[.val (.ref a), .val (.int x)] [(.int x), (.ref a)])) rfl rfl (hb hby own_d3_6)
  have Fw4 := F0.same W4
  have N4 := Fr.snoc X4 N3 g0
  have O4 := O0.wr W4 g0
  have K4 := K0.wr W4 (Or.inl (by simp))
  refine own_go (B := T4.setTop (mkF m 9 #[.val (.ref a), .val (.int x)] [])) (fun t k => st4 _ k) ?_
  obtain ⟨fs, hr, hrun, hended, hW, hsame⟩ := X4.leave (v := none) (fun _ => rfl)
  have f6 := (E0.wr W4)
  refine ⟨_, _, X4.returnOut hx Bd.returns (hb hby own_d3_9) hr, hK _ _ ⟨hrun, hended, _, _, rfl, ?_, ⟨_, rfl⟩, hW, hsame.mono (by decide) (by decide)⟩⟩
  show own_Q_intinit Z a x h0 n0 _ T4.heap _
  rw [e4]
  exact ⟨rfl, N4, K4, f6, Fw4⟩
theorem own_d4_0 : decode jdk_33_method_22_code 0 = .ok (.iload_n 0, 1) := by decide +kernel
theorem own_d4_1 : decode jdk_33_method_22_code 1 = .ok (.bipush (-128), 2) := by decide +kernel
theorem own_d4_3 : decode jdk_33_method_22_code 3 = .ok (.if_icmp .lt 20, 3) := by decide +kernel
theorem own_d4_23 : decode jdk_33_method_22_code 23 = .ok (.new 1, 3) := by decide +kernel
theorem own_d4_26 : decode jdk_33_method_22_code 26 = .ok (.dup, 1) := by decide +kernel
theorem own_d4_27 : decode jdk_33_method_22_code 27 = .ok (.iload_n 0, 1) := by decide +kernel
theorem own_d4_28 : decode jdk_33_method_22_code 28 = .ok (.invokespecial 199, 3) := by decide +kernel
theorem own_pd_1 : parseMethodDescriptor "(I)V" = some ⟨[.int], none⟩ := by decide +kernel
theorem own_d4_31 : decode jdk_33_method_22_code 31 = .ok (.areturn, 1) := by decide +kernel
theorem own_d4_6 : decode jdk_33_method_22_code 6 = .ok (.iload_n 0, 1) := by decide +kernel
theorem own_d4_7 : decode jdk_33_method_22_code 7 = .ok (.getstatic 191, 3) := by decide +kernel
theorem own_d4_10 : decode jdk_33_method_22_code 10 = .ok (.if_icmp .gt 13, 3) := by decide +kernel
theorem own_d4_13 : decode jdk_33_method_22_code 13 = .ok (.getstatic 195, 3) := by decide +kernel
theorem own_d4_16 : decode jdk_33_method_22_code 16 = .ok (.iload_n 0, 1) := by decide +kernel
theorem own_d4_17 : decode jdk_33_method_22_code 17 = .ok (.sipush 128, 3) := by decide +kernel
theorem own_d4_20 : decode jdk_33_method_22_code 20 = .ok (.iadd, 1) := by decide +kernel
theorem own_d4_21 : decode jdk_33_method_22_code 21 = .ok (.aaload, 1) := by decide +kernel
theorem own_d4_22 : decode jdk_33_method_22_code 22 = .ok (.areturn, 1) := by decide +kernel
theorem own_ef_valueOf (m : MethodId) (x0 : Int32)  : entryFrame m #[(.int x0)] 1 = mkF m 0 #[.val (.int x0)] [] := by first | (simp [entryFrame, mkF, argsToLocals, Value.category]; done) | rfl
def own_Q_valueOf (Z : State) (q1 : Int32) (w_cache : Addr) (cl : Cell) (h0 : Heap) (n0 : Nat) (v : Option Value) (h : Heap) (L : List Loc) : Prop := ∃ r : Addr, v = some (.ref r) ∧ Fr n0 L ∧ Ext h0 h ∧ Exa Z h r "java/lang/Integer"
set_option maxRecDepth 65536 in
set_option maxHeartbeats 40000000 in
theorem own_rm_valueOf (l : Launch) (Z : State) (a0 : Array Value) (hw : ∀ d ∈ tables_1, d.before a0 Z = true) (ws : List Jvm.Cond) (q1 : Int32) (w_cache : Addr) (cl : Cell) (h0 : Heap) (n0 : Nat) (O0 : Old Z n0 h0) (Hc : own_Cache Z w_cache cl) :
    MetFree l (⟨"java/lang/Integer", "valueOf", "(I)Ljava/lang/Integer;"⟩ : MethodName) (head1 (Jvm.Cond.code (⟨"java/lang/Integer", "valueOf", "(I)Ljava/lang/Integer;"⟩ : MethodName) jdk_33_method_22_code 1 (some (.object "java/lang/Integer")) :: ws) ({ frames := 3, cells := 1, slots := 1, locals := 38 } : Room)) (fun ar9 U => ar9 = #[(.int q1)] ∧ Z.Warmed39 U.vm ∧ U.heap = h0) (fun _ _ _ _ _ => True) (fun _ U o U' => ∃ v L, o = .returned v ∧ own_Q_valueOf Z q1 w_cache cl h0 n0 v U'.heap L ∧ FrameEnd U o U' L ({ frames := 3, cells := 1, slots := 1, locals := 38 } : Room).cells ({ frames := 3, cells := 1, slots := 1, locals := 38 } : Room).slots) := by
  refine MetFree.of_bodySF (plainFor_of_name own_pn_1) hisR ?_
  intro p e s m args below meth c s₁ Bd hml0 hP hK0
  obtain ⟨rfl, hZ, hh⟩ := hP
  have hx := Bd.exec
  have hby := Bd.bytes
  have hml : c.maxLocals = 1 := hml0
  have hown : s.vm.findClass "java/lang/Integer" = some m.cls := findClass_of_methodNamed Bd.named
  have hnm := (name_of_methodNamed Bd.named Bd.method).1
  have X0 : Stand p l e ({ frames := 3, cells := 1, slots := 1, locals := 38 } : Room) s m #[(.int q1)] below meth c s₁ [] 0 0 := Stand.of_body Bd
  have e0 : s₁.heap = h0 := by rw [← hh, Bd.state]; rfl
  have N0 := Fr.nil n0
  have K0 := Keep.refl h0 []
  refine own_open fun K hK => ?_
  refine own_go (B := s₁.setTop (mkF m 0 #[.val (.int q1)] [])) (fun t k => castTop (own_ef_valueOf m q1) k) ?_
  refine own_go (B := s₁.setTop (mkF m 1 #[.val (.int q1)] [(.int q1)])) (fun t k => XS.iloadN X0.here hx rfl (hb hby own_d4_0) rfl k) ?_
  refine own_go (B := s₁.setTop (mkF m 3 #[.val (.int q1)] [(.int (-128 : Int32)), (.int q1)])) (fun t k => XS.bipush X0.here hx rfl (hb hby own_d4_1) k) ?_
  by_cases hc3_7 : q1 < (-128 : Int32)
  · refine own_go (B := s₁.setTop (mkF m 23 #[.val (.int q1)] [])) (fun t k => XS.icmpYes X0.here hx rfl (pc0 := 3) (pc' := 23) rfl (hb hby own_d4_3) rfl (tlt hc3_7).1 (by decide) (by decide) k) ?_
    obtain ⟨T8, h8, X8, e8, E8, A8, D8, -, st8⟩ := newO X0 hx hZ hown (hw _ (List.mem_of_getElem? (i := 31) rfl)) (hw _ (List.mem_of_getElem? (i := 32) rfl)) (hw _ (List.mem_of_getElem? (i := 29) rfl)) e0 (g := (mkF m 23 #[.val (.int q1)] [])) rfl (hb hby own_d4_23) (by decide) (by decide)
    obtain ⟨b8, g8⟩ : ∃ z, z = h0.size := ⟨_, rfl⟩
    rw [← g8] at A8 D8 st8
    have g_b8 : n0 ≤ b8 := Nat.le_trans (own_n0 O0) (Nat.le_of_eq g8.symm)
    have O8 := O0.ext E8
    have sz_b8 : h0.size ≤ b8 := Nat.le_trans K0.1 (Nat.le_of_eq g8.symm)
    have K8 := K0.ext E8
    have F8_45 : Fld Z h8 b8 "java/lang/Integer" "value" "I" (.int (0 : Int32)) := D8 (Or.inr (hw _ (List.mem_of_getElem? (i := 45) rfl))) (ty := .int) (by decide)
    refine own_go (B := T8.setTop (mkF m 26 #[.val (.int q1)] [(.ref b8)])) (fun t k => st8 _ k) ?_
    refine own_go (B := T8.setTop (mkF m 27 #[.val (.int q1)] [(.ref b8), (.ref b8)])) (fun t k => XS.dup X8.here hx rfl (hb hby own_d4_26) rfl rfl k) ?_
    refine own_go (B := T8.setTop (mkF m 28 #[.val (.int q1)] [(.int q1), (.ref b8), (.ref b8)])) (fun t k => XS.iloadN X8.here hx rfl (hb hby own_d4_27) rfl k) ?_
    obtain ⟨_, _, ⟨T9, L9, k9, n9⟩, -, X9, ⟨Lc9, hQ9, l9, y9, z9⟩, st9⟩ := X8.specialBack hx (y := (⟨"java/lang/Integer", "<init>", "(I)V"⟩ : MethodName)) rfl hown (mvT hZ (hw _ (List.mem_of_getElem? (i := 33) rfl))) (mvT hZ (hw _ (List.mem_of_getElem? (i := 34) rfl))) (mvT hZ (hw _ (List.mem_of_getElem? (i := 36) rfl))) (by decide) (backOf (W := 1) (own_rm_intinit l Z a0 hw [] b8 q1 h8 n0 O8 A8 g_b8 F8_45) hZ (hw _ (List.mem_of_getElem? (i := 36) rfl)) (hw _ (List.mem_of_getElem? (i := 29) rfl)) (by decide) (by decide)) (g := (mkF m 28 #[.val (.int q1)] [(.int q1), (.ref b8), (.ref b8)])) rfl (by rw [hml]; rfl) (Steps.refl _) (a := b8) (argsL := [(.int q1)]) (rest := [(.ref b8)]) (lenOf own_pd_1 rfl) rfl (by show 2 * 0 + _ ≤ _; exact Nat.le_of_eq rfl) (hb hby own_d4_28) (fun _ _ => ⟨rfl, e8, (by decide : 1 + 0 ≤ _), (by decide : 1 + 0 ≤ _)⟩)
    dsimp only [Pt.U, Pt.locs, Pt.cells, Pt.slots] at X9 l9 y9 z9 st9 hQ9
    subst l9 y9 z9
    obtain ⟨rfl, N9q, Kc9, En9, Fn9_0⟩ := hQ9
    have O9 := O8.keep Kc9 (allS g_b8 all0)
    have K9 := K8.trans Kc9 (allS (Or.inr sz_b8) all0)
    have N9 := Fr.app N0 N9q
    refine own_go (B := T9.setTop (mkF m 31 #[.val (.int q1)] [(.ref b8)])) (fun t k => st9.trans k) ?_
    obtain ⟨fs, hr, hrun, hended, hW, hsame⟩ := X9.leave (v := some (.ref b8)) (fun h => by rw [Bd.returns] at h; cases h)
    have f11 := (A8.keep Kc9)
    have Ex9 : Ext h0 T9.heap := ⟨K9.1, fun x c q => K9.2.1 x c q nin0⟩
    refine ⟨_, _, own_retA X9 hx Bd.returns rfl rfl (hb hby own_d4_31) hr, hK _ _ ⟨hrun, hended, _, _, rfl, ?_, ⟨_, rfl⟩, hW, hsame.mono (by decide) (by decide)⟩⟩
    show own_Q_valueOf Z q1 w_cache cl h0 n0 _ T9.heap _
    exact ⟨b8, rfl, N9, Ex9, f11⟩
  · refine own_go (B := s₁.setTop (mkF m 6 #[.val (.int q1)] [])) (fun t k => XS.icmpNo X0.here hx rfl (hb hby own_d4_3) rfl (flt hc3_7).1 k) ?_
    refine own_go (B := s₁.setTop (mkF m 7 #[.val (.int q1)] [(.int q1)])) (fun t k => XS.iloadN X0.here hx rfl (hb hby own_d4_6) rfl k) ?_
    obtain ⟨T12, X12, e12, st12⟩ := getS2 X0 hx hZ hown (host := "") (Or.inl (hw _ (List.mem_of_getElem? (i := 49) rfl))) Via.refl e0 (Hc.1.ext O0.2) (g := (mkF m 7 #[.val (.int q1)] [(.int q1)])) rfl (hb hby own_d4_7)
    refine own_go (B := T12.setTop (mkF m 10 #[.val (.int q1)] [(.int (127 : Int32)), (.int q1)])) (fun t k => st12 _ k) ?_
    by_cases hc10_13 : (127 : Int32) < q1
    · refine own_go (B := T12.setTop (mkF m 23 #[.val (.int q1)] [])) (fun t k => XS.icmpYes X12.here hx rfl (pc0 := 10) (pc' := 23) rfl (hb hby own_d4_10) rfl (tlt hc10_13).2.2.1 (by decide) (by decide) k) ?_
      obtain ⟨T14, h14, X14, e14, E14, A14, D14, -, st14⟩ := newO X12 hx hZ hown (hw _ (List.mem_of_getElem? (i := 31) rfl)) (hw _ (List.mem_of_getElem? (i := 32) rfl)) (hw _ (List.mem_of_getElem? (i := 29) rfl)) e12 (g := (mkF m 23 #[.val (.int q1)] [])) rfl (hb hby own_d4_23) (by decide) (by decide)
      obtain ⟨b14, g14⟩ : ∃ z, z = h0.size := ⟨_, rfl⟩
      rw [← g14] at A14 D14 st14
      have g_b14 : n0 ≤ b14 := Nat.le_trans (own_n0 O0) (Nat.le_of_eq g14.symm)
      have O14 := O0.ext E14
      have sz_b14 : h0.size ≤ b14 := Nat.le_trans K0.1 (Nat.le_of_eq g14.symm)
      have K14 := K0.ext E14
      have F14_45 : Fld Z h14 b14 "java/lang/Integer" "value" "I" (.int (0 : Int32)) := D14 (Or.inr (hw _ (List.mem_of_getElem? (i := 45) rfl))) (ty := .int) (by decide)
      refine own_go (B := T14.setTop (mkF m 26 #[.val (.int q1)] [(.ref b14)])) (fun t k => st14 _ k) ?_
      refine own_go (B := T14.setTop (mkF m 27 #[.val (.int q1)] [(.ref b14), (.ref b14)])) (fun t k => XS.dup X14.here hx rfl (hb hby own_d4_26) rfl rfl k) ?_
      refine own_go (B := T14.setTop (mkF m 28 #[.val (.int q1)] [(.int q1), (.ref b14), (.ref b14)])) (fun t k => XS.iloadN X14.here hx rfl (hb hby own_d4_27) rfl k) ?_
      obtain ⟨_, _, ⟨T15, L15, k15, n15⟩, -, X15, ⟨Lc15, hQ15, l15, y15, z15⟩, st15⟩ := X14.specialBack hx (y := (⟨"java/lang/Integer", "<init>", "(I)V"⟩ : MethodName)) rfl hown (mvT hZ (hw _ (List.mem_of_getElem? (i := 33) rfl))) (mvT hZ (hw _ (List.mem_of_getElem? (i := 34) rfl))) (mvT hZ (hw _ (List.mem_of_getElem? (i := 36) rfl))) (by decide) (backOf (W := 1) (own_rm_intinit l Z a0 hw [] b14 q1 h14 n0 O14 A14 g_b14 F14_45) hZ (hw _ (List.mem_of_getElem? (i := 36) rfl)) (hw _ (List.mem_of_getElem? (i := 29) rfl)) (by decide) (by decide)) (g := (mkF m 28 #[.val (.int q1)] [(.int q1), (.ref b14), (.ref b14)])) rfl (by rw [hml]; rfl) (Steps.refl _) (a := b14) (argsL := [(.int q1)]) (rest := [(.ref b14)]) (lenOf own_pd_1 rfl) rfl (by show 2 * 0 + _ ≤ _; exact Nat.le_of_eq rfl) (hb hby own_d4_28) (fun _ _ => ⟨rfl, e14, (by decide : 1 + 0 ≤ _), (by decide : 1 + 0 ≤ _)⟩)
      dsimp only [Pt.U, Pt.locs, Pt.cells, Pt.slots] at X15 l15 y15 z15 st15 hQ15
      subst l15 y15 z15
      obtain ⟨rfl, N15q, Kc15, En15, Fn15_0⟩ := hQ15
      have O15 := O14.keep Kc15 (allS g_b14 all0)
      have K15 := K14.trans Kc15 (allS (Or.inr sz_b14) all0)
      have N15 := Fr.app N0 N15q
      refine own_go (B := T15.setTop (mkF m 31 #[.val (.int q1)] [(.ref b14)])) (fun t k => st15.trans k) ?_
      obtain ⟨fs, hr, hrun, hended, hW, hsame⟩ := X15.leave (v := some (.ref b14)) (fun h => by rw [Bd.returns] at h; cases h)
      have f17 := (A14.keep Kc15)
      have Ex9 : Ext h0 T15.heap := ⟨K15.1, fun x c q => K15.2.1 x c q nin0⟩
      refine ⟨_, _, own_retA X15 hx Bd.returns rfl rfl (hb hby own_d4_31) hr, hK _ _ ⟨hrun, hended, _, _, rfl, ?_, ⟨_, rfl⟩, hW, hsame.mono (by decide) (by decide)⟩⟩
      show own_Q_valueOf Z q1 w_cache cl h0 n0 _ T15.heap _
      exact ⟨b14, rfl, N15, Ex9, f17⟩
    · refine own_go (B := T12.setTop (mkF m 13 #[.val (.int q1)] [])) (fun t k => XS.icmpNo X12.here hx rfl (hb hby own_d4_10) rfl (flt hc10_13).2.2.1 k) ?_
      obtain ⟨T18, X18, e18, st18⟩ := getS2 X12 hx hZ hown (host := "") (Or.inl (hw _ (List.mem_of_getElem? (i := 51) rfl))) Via.refl e12 (Hc.2.1.ext O0.2) (g := (mkF m 13 #[.val (.int q1)] [])) rfl (hb hby own_d4_13)
      refine own_go (B := T18.setTop (mkF m 16 #[.val (.int q1)] [(.ref w_cache)])) (fun t k => st18 _ k) ?_
      refine own_go (B := T18.setTop (mkF m 17 #[.val (.int q1)] [(.int q1), (.ref w_cache)])) (fun t k => XS.iloadN X18.here hx rfl (hb hby own_d4_16) rfl k) ?_
      refine own_go (B := T18.setTop (mkF m 20 #[.val (.int q1)] [(.int (128 : Int32)), (.int q1), (.ref w_cache)])) (fun t k => XS.sipush X18.here hx rfl (hb hby own_d4_17) k) ?_
      refine own_go (B := T18.setTop (mkF m 21 #[.val (.int q1)] [(.int (q1 + (128 : Int32))), (.ref w_cache)])) (fun t k => XS.iadd X18.here hx rfl (hb hby own_d4_20) rfl k) ?_
      obtain ⟨r19, hin19, hat19, hE19⟩ := Hc.2.2.2 q1 hc3_7 hc10_13
      have Ac19 := Hc.2.2.1.ext O0.2
      refine own_go (B := T18.setTop (mkF m 22 #[.val (.int q1)] [(.ref r19)])) (fun t k => X18.aaload hx (j := (q1 + (128 : Int32))) (v := (.ref r19)) (by rw [e18]; exact Ac19.1) (State.isArrayOf_alike hZ.alike Ac19.2.1) rfl Ac19.2.2 hin19 hat19 (g := (mkF m 21 #[.val (.int q1)] [(.int (q1 + (128 : Int32))), (.ref w_cache)])) rfl rfl (hb hby own_d4_21) _ k) ?_
      obtain ⟨fs, hr, hrun, hended, hW, hsame⟩ := X18.leave (v := some (.ref r19)) (fun h => by rw [Bd.returns] at h; cases h)
      refine ⟨_, _, own_retA X18 hx Bd.returns rfl rfl (hb hby own_d4_22) hr, hK _ _ ⟨hrun, hended, _, _, rfl, ?_, ⟨_, rfl⟩, hW, hsame.mono (by decide) (by decide)⟩⟩
      show own_Q_valueOf Z q1 w_cache cl h0 n0 _ T18.heap _
      rw [e18]
      exact ⟨r19, rfl, N0, ⟨Nat.le_refl _, fun _ _ q => q⟩, (hE19.ext O0.2)⟩
theorem own_d0_0 : decode prog_25_method_1_code 0 = .ok (.aload_n 0, 1) := by decide +kernel
theorem own_d0_1 : decode prog_25_method_1_code 1 = .ok (.invokespecial 1, 3) := by decide +kernel
theorem own_d0_4 : decode prog_25_method_1_code 4 = .ok (.lload_n 1, 1) := by decide +kernel
theorem own_d0_5 : decode prog_25_method_1_code 5 = .ok (.lconst 0, 1) := by decide +kernel
theorem own_d0_6 : decode prog_25_method_1_code 6 = .ok (.lcmp, 1) := by decide +kernel
theorem own_d0_7 : decode prog_25_method_1_code 7 = .ok (.ifCond .lt 25, 3) := by decide +kernel
theorem own_d0_10 : decode prog_25_method_1_code 10 = .ok (.iload_n 3, 1) := by decide +kernel
theorem own_d0_11 : decode prog_25_method_1_code 11 = .ok (.ifCond .lt 21, 3) := by decide +kernel
theorem own_d0_14 : decode prog_25_method_1_code 14 = .ok (.iload_n 3, 1) := by decide +kernel
theorem own_d0_15 : decode prog_25_method_1_code 15 = .ok (.ldc 9, 2) := by decide +kernel
theorem own_d0_17 : decode prog_25_method_1_code 17 = .ok (.if_icmp .gt 15, 3) := by decide +kernel
theorem own_d0_20 : decode prog_25_method_1_code 20 = .ok (.iload 4, 2) := by decide +kernel
theorem own_d0_22 : decode prog_25_method_1_code 22 = .ok (.ifCond .lt 10, 3) := by decide +kernel
theorem own_d0_25 : decode prog_25_method_1_code 25 = .ok (.iload 4, 2) := by decide +kernel
theorem own_d0_27 : decode prog_25_method_1_code 27 = .ok (.ldc 9, 2) := by decide +kernel
theorem own_d0_29 : decode prog_25_method_1_code 29 = .ok (.if_icmp .le 11, 3) := by decide +kernel
theorem own_d0_40 : decode prog_25_method_1_code 40 = .ok (.aload_n 0, 1) := by decide +kernel
theorem own_d0_41 : decode prog_25_method_1_code 41 = .ok (.lload_n 1, 1) := by decide +kernel
theorem own_d0_42 : decode prog_25_method_1_code 42 = .ok (.putfield 14, 3) := by decide +kernel
theorem own_d0_45 : decode prog_25_method_1_code 45 = .ok (.aload_n 0, 1) := by decide +kernel
theorem own_d0_46 : decode prog_25_method_1_code 46 = .ok (.iload_n 3, 1) := by decide +kernel
theorem own_d0_47 : decode prog_25_method_1_code 47 = .ok (.putfield 18, 3) := by decide +kernel
theorem own_d0_50 : decode prog_25_method_1_code 50 = .ok (.aload_n 0, 1) := by decide +kernel
theorem own_d0_51 : decode prog_25_method_1_code 51 = .ok (.iload 4, 2) := by decide +kernel
theorem own_d0_53 : decode prog_25_method_1_code 53 = .ok (.putfield 22, 3) := by decide +kernel
theorem own_d0_56 : decode prog_25_method_1_code 56 = .ok (.aload_n 0, 1) := by decide +kernel
theorem own_d0_57 : decode prog_25_method_1_code 57 = .ok (.iload 5, 2) := by decide +kernel
theorem own_d0_59 : decode prog_25_method_1_code 59 = .ok (.putfield 25, 3) := by decide +kernel
theorem own_d0_62 : decode prog_25_method_1_code 62 = .ok (.return_, 1) := by decide +kernel
theorem own_pn_2 : plainName "com/example/helm_of_panes/helmofpanes/input/InputEvent" = true := by first | (simp [plainName, overriddenIn]; done) | decide +kernel
theorem own_ef_iinit (m : MethodId) (x0 : Addr) (x1 : Int64) (x2 : Int32) (x3 : Int32) (x4 : Int32)  : entryFrame m #[(.ref x0), (.long x1), (.int x2), (.int x3), (.int x4)] 6 = mkF m 0 #[.val (.ref x0), .val (.long x1), .second, .val (.int x2), .val (.int x3), .val (.int x4)] [] := by first | (simp [entryFrame, mkF, argsToLocals, Value.category]; done) | rfl
def own_Q_iinit (Z : State) (a : Addr) (tm : Int64) (ty cd vl : Int32) (h0 : Heap) (n0 : Nat) (v : Option Value) (h : Heap) (L : List Loc) : Prop := v = none ∧ Fr n0 L ∧ Keep h0 h [a] ∧ Exa Z h a "com/example/helm_of_panes/helmofpanes/input/InputEvent" ∧ Fld Z h a "com/example/helm_of_panes/helmofpanes/input/InputEvent" "timeMicros" "J" (.long tm) ∧ Fld Z h a "com/example/helm_of_panes/helmofpanes/input/InputEvent" "type" "I" (.int ty) ∧ Fld Z h a "com/example/helm_of_panes/helmofpanes/input/InputEvent" "code" "I" (.int cd) ∧ Fld Z h a "com/example/helm_of_panes/helmofpanes/input/InputEvent" "value" "I" (.int vl)
set_option maxRecDepth 65536 in
set_option maxHeartbeats 40000000 in
theorem own_rm_iinit (l : Launch) (Z : State) (a0 : Array Value) (hw : ∀ d ∈ tables_1, d.before a0 Z = true) (ws : List Jvm.Cond) (a : Addr) (tm : Int64) (ty cd vl : Int32) (h0 : Heap) (n0 : Nat) (O0 : Old Z n0 h0) (E0 : Exa Z h0 a "com/example/helm_of_panes/helmofpanes/input/InputEvent") (g0 : n0 ≤ a) (F0 : Fld Z h0 a "com/example/helm_of_panes/helmofpanes/input/InputEvent" "timeMicros" "J" (.long (0 : Int64))) (F1 : Fld Z h0 a "com/example/helm_of_panes/helmofpanes/input/InputEvent" "type" "I" (.int (0 : Int32))) (F2 : Fld Z h0 a "com/example/helm_of_panes/helmofpanes/input/InputEvent" "code" "I" (.int (0 : Int32))) (F3 : Fld Z h0 a "com/example/helm_of_panes/helmofpanes/input/InputEvent" "value" "I" (.int (0 : Int32))) (c1 : ¬ (tm < (0 : Int64))) (c2 : ¬ (ty < (0 : Int32))) (c3 : ¬ ((65535 : Int32) < ty)) (c4 : ¬ (cd < (0 : Int32))) (c5 : ¬ ((65535 : Int32) < cd)) :
    MetFree l (⟨"com/example/helm_of_panes/helmofpanes/input/InputEvent", "<init>", "(JIII)V"⟩ : MethodName) (head1 (Jvm.Cond.code (⟨"com/example/helm_of_panes/helmofpanes/input/InputEvent", "<init>", "(JIII)V"⟩ : MethodName) prog_25_method_1_code 6 none :: ws) ({ frames := 1, cells := 0, slots := 0, locals := 12 } : Room)) (fun ar9 U => ar9 = #[(.ref a), (.long tm), (.int ty), (.int cd), (.int vl)] ∧ Z.Warmed39 U.vm ∧ U.heap = h0) (fun _ _ _ _ _ => True) (fun _ U o U' => ∃ v L, o = .returned v ∧ own_Q_iinit Z a tm ty cd vl h0 n0 v U'.heap L ∧ FrameEnd U o U' L ({ frames := 1, cells := 0, slots := 0, locals := 12 } : Room).cells ({ frames := 1, cells := 0, slots := 0, locals := 12 } : Room).slots) := by
  refine MetFree.of_bodySF (plainFor_of_name own_pn_2) hisR ?_
  intro p e s m args below meth c s₁ Bd hml0 hP hK0
  obtain ⟨rfl, hZ, hh⟩ := hP
  have hx := Bd.exec
  have hby := Bd.bytes
  have hml : c.maxLocals = 6 := hml0
  have hown : s.vm.findClass "com/example/helm_of_panes/helmofpanes/input/InputEvent" = some m.cls := findClass_of_methodNamed Bd.named
  have hnm := (name_of_methodNamed Bd.named Bd.method).1
  have X0 : Stand p l e ({ frames := 1, cells := 0, slots := 0, locals := 12 } : Room) s m #[(.ref a), (.long tm), (.int ty), (.int cd), (.int vl)] below meth c s₁ [] 0 0 := Stand.of_body Bd
  have e0 : s₁.heap = h0 := by rw [← hh, Bd.state]; rfl
  have N0 := Fr.nil n0
  have K0 := Keep.refl h0 [a]
  refine own_open fun K hK => ?_
  refine own_go (B := s₁.setTop (mkF m 0 #[.val (.ref a), .val (.long tm), .second, .val (.int ty), .val (.int cd), .val (.int vl)] [])) (fun t k => castTop (own_ef_iinit m a tm ty cd vl) k) ?_
  refine own_go (B := s₁.setTop (mkF m 1 #[.val (.ref a), .val (.long tm), .second, .val (.int ty), .val (.int cd), .val (.int vl)] [(.ref a)])) (fun t k => XS.aloadN X0.here hx rfl (hb hby own_d0_0) rfl rfl k) ?_
  obtain ⟨T21, X21, e21, st21⟩ := initO X0 hx hZ hown (hw _ (List.mem_of_getElem? (i := 8) rfl)) (hw _ (List.mem_of_getElem? (i := 9) rfl)) (hw _ (List.mem_of_getElem? (i := 10) rfl)) e0 (g := (mkF m 1 #[.val (.ref a), .val (.long tm), .second, .val (.int ty), .val (.int cd), .val (.int vl)] [(.ref a)])) rfl (by rw [hml]; rfl) rfl (hb hby own_d0_1) (by decide) (W := 0) (by show 2 * 0 + _ ≤ _; exact Nat.le_of_eq rfl) (by decide)
  refine own_go (B := T21.setTop (mkF m 4 #[.val (.ref a), .val (.long tm), .second, .val (.int ty), .val (.int cd), .val (.int vl)] [])) (fun t k => st21 _ k) ?_
  refine own_go (B := T21.setTop (mkF m 5 #[.val (.ref a), .val (.long tm), .second, .val (.int ty), .val (.int cd), .val (.int vl)] [(.long tm)])) (fun t k => XS.lloadN X21.here hx rfl (hb hby own_d0_4) rfl k) ?_
  refine own_go (B := T21.setTop (mkF m 6 #[.val (.ref a), .val (.long tm), .second, .val (.int ty), .val (.int cd), .val (.int vl)] [(.long (0 : Int64)), (.long tm)])) (fun t k => XS.lconst X21.here hx rfl (hb hby own_d0_5) k) ?_
  refine own_go (B := T21.setTop (mkF m 7 #[.val (.ref a), .val (.long tm), .second, .val (.int ty), .val (.int cd), .val (.int vl)] [(.int (lcmpW tm (0 : Int64)))])) (fun t k => XS.lcmp X21.here hx rfl (hb hby own_d0_6) rfl k) ?_
  refine own_go (B := T21.setTop (mkF m 10 #[.val (.ref a), .val (.long tm), .second, .val (.int ty), .val (.int cd), .val (.int vl)] [])) (fun t k => XS.ifNo X21.here hx rfl (hb hby own_d0_7) rfl ((if0 _ _).trans (flt (fun q => c1 ((lw_lt tm (0 : Int64)).mp q))).1) k) ?_
  refine own_go (B := T21.setTop (mkF m 11 #[.val (.ref a), .val (.long tm), .second, .val (.int ty), .val (.int cd), .val (.int vl)] [(.int ty)])) (fun t k => XS.iloadN X21.here hx rfl (hb hby own_d0_10) rfl k) ?_
  refine own_go (B := T21.setTop (mkF m 14 #[.val (.ref a), .val (.long tm), .second, .val (.int ty), .val (.int cd), .val (.int vl)] [])) (fun t k => XS.ifNo X21.here hx rfl (hb hby own_d0_11) rfl ((if0 _ _).trans (flt c2).1) k) ?_
  refine own_go (B := T21.setTop (mkF m 15 #[.val (.ref a), .val (.long tm), .second, .val (.int ty), .val (.int cd), .val (.int vl)] [(.int ty)])) (fun t k => XS.iloadN X21.here hx rfl (hb hby own_d0_14) rfl k) ?_
  refine own_go (B := T21.setTop (mkF m 17 #[.val (.ref a), .val (.long tm), .second, .val (.int ty), .val (.int cd), .val (.int vl)] [(.int (65535 : Int32)), (.int ty)])) (fun t k => X21.ldcInt hx hown (mvT hZ (hw _ (List.mem_of_getElem? (i := 11) rfl))) (g := (mkF m 15 #[.val (.ref a), .val (.long tm), .second, .val (.int ty), .val (.int cd), .val (.int vl)] [(.int ty)])) rfl (hb hby own_d0_15) _ k) ?_
  refine own_go (B := T21.setTop (mkF m 20 #[.val (.ref a), .val (.long tm), .second, .val (.int ty), .val (.int cd), .val (.int vl)] [])) (fun t k => XS.icmpNo X21.here hx rfl (hb hby own_d0_17) rfl (flt c3).2.2.1 k) ?_
  refine own_go (B := T21.setTop (mkF m 22 #[.val (.ref a), .val (.long tm), .second, .val (.int ty), .val (.int cd), .val (.int vl)] [(.int cd)])) (fun t k => XS.iload X21.here hx rfl (hb hby own_d0_20) rfl k) ?_
  refine own_go (B := T21.setTop (mkF m 25 #[.val (.ref a), .val (.long tm), .second, .val (.int ty), .val (.int cd), .val (.int vl)] [])) (fun t k => XS.ifNo X21.here hx rfl (hb hby own_d0_22) rfl ((if0 _ _).trans (flt c4).1) k) ?_
  refine own_go (B := T21.setTop (mkF m 27 #[.val (.ref a), .val (.long tm), .second, .val (.int ty), .val (.int cd), .val (.int vl)] [(.int cd)])) (fun t k => XS.iload X21.here hx rfl (hb hby own_d0_25) rfl k) ?_
  refine own_go (B := T21.setTop (mkF m 29 #[.val (.ref a), .val (.long tm), .second, .val (.int ty), .val (.int cd), .val (.int vl)] [(.int (65535 : Int32)), (.int cd)])) (fun t k => X21.ldcInt hx hown (mvT hZ (hw _ (List.mem_of_getElem? (i := 11) rfl))) (g := (mkF m 27 #[.val (.ref a), .val (.long tm), .second, .val (.int ty), .val (.int cd), .val (.int vl)] [(.int cd)])) rfl (hb hby own_d0_27) _ k) ?_
  refine own_go (B := T21.setTop (mkF m 40 #[.val (.ref a), .val (.long tm), .second, .val (.int ty), .val (.int cd), .val (.int vl)] [])) (fun t k => XS.icmpYes X21.here hx rfl (pc0 := 29) (pc' := 40) rfl (hb hby own_d0_29) rfl (flt c5).2.2.2 (by decide) (by decide) k) ?_
  refine own_go (B := T21.setTop (mkF m 41 #[.val (.ref a), .val (.long tm), .second, .val (.int ty), .val (.int cd), .val (.int vl)] [(.ref a)])) (fun t k => XS.aloadN X21.here hx rfl (hb hby own_d0_40) rfl rfl k) ?_
  refine own_go (B := T21.setTop (mkF m 42 #[.val (.ref a), .val (.long tm), .second, .val (.int ty), .val (.int cd), .val (.int vl)] [(.long tm), (.ref a)])) (fun t k => XS.lloadN X21.here hx rfl (hb hby own_d0_41) rfl k) ?_
  obtain ⟨T27, h27, X27, e27, W27, st27⟩ := putF X21 hx hZ hown (host := "") (Or.inl (hw _ (List.mem_of_getElem? (i := 12) rfl))) Via.refl e21 F0 E0 (Or.inr ⟨(hw _ (List.mem_of_getElem? (i := 13) rfl)), rfl, hnm⟩) (hw _ (List.mem_of_getElem? (i := 3) rfl)) (ty := .long) (by decide) rfl rfl (g := (mkF m 42 #[.val (.ref a), .val (.long tm), .second, .val (.int ty), .val (.int cd), .val (.int vl)] [(.long tm), (.ref a)])) rfl rfl (hb hby own_d0_42)
  have Fw27 := F0.same W27
  have N27 := Fr.snoc X27 N0 g0
  have O27 := O0.wr W27 g0
  have K27 := K0.wr W27 (Or.inl (by simp))
  refine own_go (B := T27.setTop (mkF m 45 #[.val (.ref a), .val (.long tm), .second, .val (.int ty), .val (.int cd), .val (.int vl)] [])) (fun t k => st27 _ k) ?_
  refine own_go (B := T27.setTop (mkF m 46 #[.val (.ref a), .val (.long tm), .second, .val (.int ty), .val (.int cd), .val (.int vl)] [(.ref a)])) (fun t k => XS.aloadN X27.here hx rfl (hb hby own_d0_45) rfl rfl k) ?_
  refine own_go (B := T27.setTop (mkF m 47 #[.val (.ref a), .val (.long tm), .second, .val (.int ty), .val (.int cd), .val (.int vl)] [(.int ty), (.ref a)])) (fun t k => XS.iloadN X27.here hx rfl (hb hby own_d0_46) rfl k) ?_
  have f28 := (F1.other W27 (Or.inr (slot_ne (Or.inr (hw _ (List.mem_of_getElem? (i := 15) rfl))) (Or.inr (hw _ (List.mem_of_getElem? (i := 13) rfl))) (by decide) (t := .int) (t' := .long) (by decide) (by decide))))
  have f29 := (E0.wr W27)
  obtain ⟨T30, h30, X30, e30, W30, st30⟩ := putF X27 hx hZ hown (host := "") (Or.inl (hw _ (List.mem_of_getElem? (i := 14) rfl))) Via.refl e27 f28 f29 (Or.inr ⟨(hw _ (List.mem_of_getElem? (i := 15) rfl)), rfl, hnm⟩) (hw _ (List.mem_of_getElem? (i := 3) rfl)) (ty := .int) (by decide) rfl rfl (g := (mkF m 47 #[.val (.ref a), .val (.long tm), .second, .val (.int ty), .val (.int cd), .val (.int vl)] [(.int ty), (.ref a)])) rfl rfl (hb hby own_d0_47)
  have Fw30 := f28.same W30
  have N30 := Fr.snoc X30 N27 g0
  have O30 := O27.wr W30 g0
  have K30 := K27.wr W30 (Or.inl (by simp))
  refine own_go (B := T30.setTop (mkF m 50 #[.val (.ref a), .val (.long tm), .second, .val (.int ty), .val (.int cd), .val (.int vl)] [])) (fun t k => st30 _ k) ?_
  refine own_go (B := T30.setTop (mkF m 51 #[.val (.ref a), .val (.long tm), .second, .val (.int ty), .val (.int cd), .val (.int vl)] [(.ref a)])) (fun t k => XS.aloadN X30.here hx rfl (hb hby own_d0_50) rfl rfl k) ?_
  refine own_go (B := T30.setTop (mkF m 53 #[.val (.ref a), .val (.long tm), .second, .val (.int ty), .val (.int cd), .val (.int vl)] [(.int cd), (.ref a)])) (fun t k => XS.iload X30.here hx rfl (hb hby own_d0_51) rfl k) ?_
  have f31 := ((F2.other W27 (Or.inr (slot_ne (Or.inr (hw _ (List.mem_of_getElem? (i := 17) rfl))) (Or.inr (hw _ (List.mem_of_getElem? (i := 13) rfl))) (by decide) (t := .int) (t' := .long) (by decide) (by decide)))).other W30 (Or.inr (slot_ne (Or.inr (hw _ (List.mem_of_getElem? (i := 17) rfl))) (Or.inr (hw _ (List.mem_of_getElem? (i := 15) rfl))) (by decide) (t := .int) (t' := .int) (by decide) (by decide))))
  have f32 := (f29.wr W30)
  obtain ⟨T33, h33, X33, e33, W33, st33⟩ := putF X30 hx hZ hown (host := "") (Or.inl (hw _ (List.mem_of_getElem? (i := 16) rfl))) Via.refl e30 f31 f32 (Or.inr ⟨(hw _ (List.mem_of_getElem? (i := 17) rfl)), rfl, hnm⟩) (hw _ (List.mem_of_getElem? (i := 3) rfl)) (ty := .int) (by decide) rfl rfl (g := (mkF m 53 #[.val (.ref a), .val (.long tm), .second, .val (.int ty), .val (.int cd), .val (.int vl)] [(.int cd), (.ref a)])) rfl rfl (hb hby own_d0_53)
  have Fw33 := f31.same W33
  have N33 := Fr.snoc X33 N30 g0
  have O33 := O30.wr W33 g0
  have K33 := K30.wr W33 (Or.inl (by simp))
  refine own_go (B := T33.setTop (mkF m 56 #[.val (.ref a), .val (.long tm), .second, .val (.int ty), .val (.int cd), .val (.int vl)] [])) (fun t k => st33 _ k) ?_
  refine own_go (B := T33.setTop (mkF m 57 #[.val (.ref a), .val (.long tm), .second, .val (.int ty), .val (.int cd), .val (.int vl)] [(.ref a)])) (fun t k => XS.aloadN X33.here hx rfl (hb hby own_d0_56) rfl rfl k) ?_
  refine own_go (B := T33.setTop (mkF m 59 #[.val (.ref a), .val (.long tm), .second, .val (.int ty), .val (.int cd), .val (.int vl)] [(.int vl), (.ref a)])) (fun t k => XS.iload X33.here hx rfl (hb hby own_d0_57) rfl k) ?_
  have f34 := (((F3.other W27 (Or.inr (slot_ne (Or.inr (hw _ (List.mem_of_getElem? (i := 19) rfl))) (Or.inr (hw _ (List.mem_of_getElem? (i := 13) rfl))) (by decide) (t := .int) (t' := .long) (by decide) (by decide)))).other W30 (Or.inr (slot_ne (Or.inr (hw _ (List.mem_of_getElem? (i := 19) rfl))) (Or.inr (hw _ (List.mem_of_getElem? (i := 15) rfl))) (by decide) (t := .int) (t' := .int) (by decide) (by decide)))).other W33 (Or.inr (slot_ne (Or.inr (hw _ (List.mem_of_getElem? (i := 19) rfl))) (Or.inr (hw _ (List.mem_of_getElem? (i := 17) rfl))) (by decide) (t := .int) (t' := .int) (by decide) (by decide))))
  have f35 := (f32.wr W33)
  obtain ⟨T36, h36, X36, e36, W36, st36⟩ := putF X33 hx hZ hown (host := "") (Or.inl (hw _ (List.mem_of_getElem? (i := 18) rfl))) Via.refl e33 f34 f35 (Or.inr ⟨(hw _ (List.mem_of_getElem? (i := 19) rfl)), rfl, hnm⟩) (hw _ (List.mem_of_getElem? (i := 3) rfl)) (ty := .int) (by decide) rfl rfl (g := (mkF m 59 #[.val (.ref a), .val (.long tm), .second, .val (.int ty), .val (.int cd), .val (.int vl)] [(.int vl), (.ref a)])) rfl rfl (hb hby own_d0_59)
  have Fw36 := f34.same W36
  have N36 := Fr.snoc X36 N33 g0
  have O36 := O33.wr W36 g0
  have K36 := K33.wr W36 (Or.inl (by simp))
  refine own_go (B := T36.setTop (mkF m 62 #[.val (.ref a), .val (.long tm), .second, .val (.int ty), .val (.int cd), .val (.int vl)] [])) (fun t k => st36 _ k) ?_
  obtain ⟨fs, hr, hrun, hended, hW, hsame⟩ := X36.leave (v := none) (fun _ => rfl)
  have f38 := (f35.wr W36)
  have f39 := (((Fw27.other W30 (Or.inr (slot_ne (Or.inr (hw _ (List.mem_of_getElem? (i := 13) rfl))) (Or.inr (hw _ (List.mem_of_getElem? (i := 15) rfl))) (by decide) (t := .long) (t' := .int) (by decide) (by decide)))).other W33 (Or.inr (slot_ne (Or.inr (hw _ (List.mem_of_getElem? (i := 13) rfl))) (Or.inr (hw _ (List.mem_of_getElem? (i := 17) rfl))) (by decide) (t := .long) (t' := .int) (by decide) (by decide)))).other W36 (Or.inr (slot_ne (Or.inr (hw _ (List.mem_of_getElem? (i := 13) rfl))) (Or.inr (hw _ (List.mem_of_getElem? (i := 19) rfl))) (by decide) (t := .long) (t' := .int) (by decide) (by decide))))
  have f40 := ((Fw30.other W33 (Or.inr (slot_ne (Or.inr (hw _ (List.mem_of_getElem? (i := 15) rfl))) (Or.inr (hw _ (List.mem_of_getElem? (i := 17) rfl))) (by decide) (t := .int) (t' := .int) (by decide) (by decide)))).other W36 (Or.inr (slot_ne (Or.inr (hw _ (List.mem_of_getElem? (i := 15) rfl))) (Or.inr (hw _ (List.mem_of_getElem? (i := 19) rfl))) (by decide) (t := .int) (t' := .int) (by decide) (by decide))))
  have f41 := (Fw33.other W36 (Or.inr (slot_ne (Or.inr (hw _ (List.mem_of_getElem? (i := 17) rfl))) (Or.inr (hw _ (List.mem_of_getElem? (i := 19) rfl))) (by decide) (t := .int) (t' := .int) (by decide) (by decide))))
  refine ⟨_, _, X36.returnOut hx Bd.returns (hb hby own_d0_62) hr, hK _ _ ⟨hrun, hended, _, _, rfl, ?_, ⟨_, rfl⟩, hW, hsame.mono (by decide) (by decide)⟩⟩
  show own_Q_iinit Z a tm ty cd vl h0 n0 _ T36.heap _
  rw [e36]
  exact ⟨rfl, N36, K36, f38, f39, f40, f41, Fw36⟩
theorem own_d1_0 : decode prog_25_method_8_code 0 = .ok (.aload_n 0, 1) := by decide +kernel
theorem own_d1_1 : decode prog_25_method_8_code 1 = .ok (.aload_n 1, 1) := by decide +kernel
theorem own_d1_2 : decode prog_25_method_8_code 2 = .ok (.if_acmp .ne 5, 3) := by decide +kernel
theorem own_d1_7 : decode prog_25_method_8_code 7 = .ok (.aload_n 1, 1) := by decide +kernel
theorem own_d1_8 : decode prog_25_method_8_code 8 = .ok (.instanceof 7, 3) := by decide +kernel
theorem own_d1_11 : decode prog_25_method_8_code 11 = .ok (.ifCond .eq 11, 3) := by decide +kernel
theorem own_d1_14 : decode prog_25_method_8_code 14 = .ok (.aload_n 1, 1) := by decide +kernel
theorem own_d1_15 : decode prog_25_method_8_code 15 = .ok (.checkcast 7, 3) := by decide +kernel
theorem own_d1_18 : decode prog_25_method_8_code 18 = .ok (.astore_n 2, 1) := by decide +kernel
theorem own_d1_19 : decode prog_25_method_8_code 19 = .ok (.goto 5, 3) := by decide +kernel
theorem own_d1_24 : decode prog_25_method_8_code 24 = .ok (.aload_n 0, 1) := by decide +kernel
theorem own_d1_25 : decode prog_25_method_8_code 25 = .ok (.getfield 14, 3) := by decide +kernel
theorem own_d1_28 : decode prog_25_method_8_code 28 = .ok (.aload_n 2, 1) := by decide +kernel
theorem own_d1_29 : decode prog_25_method_8_code 29 = .ok (.getfield 14, 3) := by decide +kernel
theorem own_d1_32 : decode prog_25_method_8_code 32 = .ok (.lcmp, 1) := by decide +kernel
theorem own_d1_33 : decode prog_25_method_8_code 33 = .ok (.ifCond .ne 40, 3) := by decide +kernel
theorem own_d1_36 : decode prog_25_method_8_code 36 = .ok (.aload_n 0, 1) := by decide +kernel
theorem own_d1_37 : decode prog_25_method_8_code 37 = .ok (.getfield 18, 3) := by decide +kernel
theorem own_d1_40 : decode prog_25_method_8_code 40 = .ok (.aload_n 2, 1) := by decide +kernel
theorem own_d1_41 : decode prog_25_method_8_code 41 = .ok (.getfield 18, 3) := by decide +kernel
theorem own_d1_44 : decode prog_25_method_8_code 44 = .ok (.if_icmp .ne 29, 3) := by decide +kernel
theorem own_d1_47 : decode prog_25_method_8_code 47 = .ok (.aload_n 0, 1) := by decide +kernel
theorem own_d1_48 : decode prog_25_method_8_code 48 = .ok (.getfield 22, 3) := by decide +kernel
theorem own_d1_51 : decode prog_25_method_8_code 51 = .ok (.aload_n 2, 1) := by decide +kernel
theorem own_d1_52 : decode prog_25_method_8_code 52 = .ok (.getfield 22, 3) := by decide +kernel
theorem own_d1_55 : decode prog_25_method_8_code 55 = .ok (.if_icmp .ne 18, 3) := by decide +kernel
theorem own_d1_58 : decode prog_25_method_8_code 58 = .ok (.aload_n 0, 1) := by decide +kernel
theorem own_d1_59 : decode prog_25_method_8_code 59 = .ok (.getfield 25, 3) := by decide +kernel
theorem own_d1_62 : decode prog_25_method_8_code 62 = .ok (.aload_n 2, 1) := by decide +kernel
theorem own_d1_63 : decode prog_25_method_8_code 63 = .ok (.getfield 25, 3) := by decide +kernel
theorem own_d1_66 : decode prog_25_method_8_code 66 = .ok (.if_icmp .ne 7, 3) := by decide +kernel
theorem own_d1_69 : decode prog_25_method_8_code 69 = .ok (.iconst 1, 1) := by decide +kernel
theorem own_d1_70 : decode prog_25_method_8_code 70 = .ok (.goto 4, 3) := by decide +kernel
theorem own_d1_74 : decode prog_25_method_8_code 74 = .ok (.ireturn, 1) := by decide +kernel
theorem own_d1_73 : decode prog_25_method_8_code 73 = .ok (.iconst 0, 1) := by decide +kernel
theorem own_ef_eqP (m : MethodId) (x0 : Addr) (x1 : Addr)  : entryFrame m #[(.ref x0), (.ref x1)] 3 = mkF m 0 #[.val (.ref x0), .val (.ref x1), .unset] [] := by first | (simp [entryFrame, mkF, argsToLocals, Value.category]; done) | rfl
def own_Q_eqP (Z : State) (a b : Addr) (t1 t2 : Int64) (y1 d1 v1 y2 d2 v2 r : Int32) (h0 : Heap) (n0 : Nat) (v : Option Value) (h : Heap) (L : List Loc) : Prop := v = some (.int r) ∧ Fr n0 L ∧ h = h0
set_option maxRecDepth 65536 in
set_option maxHeartbeats 40000000 in
theorem own_rm_eqP (l : Launch) (Z : State) (a0 : Array Value) (hw : ∀ d ∈ tables_1, d.before a0 Z = true) (ws : List Jvm.Cond) (a b : Addr) (t1 t2 : Int64) (y1 d1 v1 y2 d2 v2 r : Int32) (h0 : Heap) (n0 : Nat) (O0 : Old Z n0 h0) (hne : a ≠ b) (E2 : Exa Z h0 b "com/example/helm_of_panes/helmofpanes/input/InputEvent") (F0a : Fld Z h0 a "com/example/helm_of_panes/helmofpanes/input/InputEvent" "timeMicros" "J" (.long t1)) (F1a : Fld Z h0 a "com/example/helm_of_panes/helmofpanes/input/InputEvent" "type" "I" (.int y1)) (F2a : Fld Z h0 a "com/example/helm_of_panes/helmofpanes/input/InputEvent" "code" "I" (.int d1)) (F3a : Fld Z h0 a "com/example/helm_of_panes/helmofpanes/input/InputEvent" "value" "I" (.int v1)) (F0b : Fld Z h0 b "com/example/helm_of_panes/helmofpanes/input/InputEvent" "timeMicros" "J" (.long t2)) (F1b : Fld Z h0 b "com/example/helm_of_panes/helmofpanes/input/InputEvent" "type" "I" (.int y2)) (F2b : Fld Z h0 b "com/example/helm_of_panes/helmofpanes/input/InputEvent" "code" "I" (.int d2)) (F3b : Fld Z h0 b "com/example/helm_of_panes/helmofpanes/input/InputEvent" "value" "I" (.int v2)) (hr0 : r = if t1 = t2 ∧ y1 = y2 ∧ d1 = d2 ∧ v1 = v2 then 1 else 0) :
    MetFree l (⟨"com/example/helm_of_panes/helmofpanes/input/InputEvent", "equals", "(Ljava/lang/Object;)Z"⟩ : MethodName) (head1 (Jvm.Cond.code (⟨"com/example/helm_of_panes/helmofpanes/input/InputEvent", "equals", "(Ljava/lang/Object;)Z"⟩ : MethodName) prog_25_method_8_code 3 (some .boolean) :: ws) ({ frames := 0, cells := 0, slots := 0, locals := 0 } : Room)) (fun ar9 U => ar9 = #[(.ref a), (.ref b)] ∧ Z.Warmed39 U.vm ∧ U.heap = h0) (fun _ _ _ _ _ => True) (fun _ U o U' => ∃ v L, o = .returned v ∧ own_Q_eqP Z a b t1 t2 y1 d1 v1 y2 d2 v2 r h0 n0 v U'.heap L ∧ FrameEnd U o U' L ({ frames := 0, cells := 0, slots := 0, locals := 0 } : Room).cells ({ frames := 0, cells := 0, slots := 0, locals := 0 } : Room).slots) := by
  refine MetFree.of_bodySF (plainFor_of_name own_pn_2) hisR ?_
  intro p e s m args below meth c s₁ Bd hml0 hP hK0
  obtain ⟨rfl, hZ, hh⟩ := hP
  have hx := Bd.exec
  have hby := Bd.bytes
  have hml : c.maxLocals = 3 := hml0
  have hown : s.vm.findClass "com/example/helm_of_panes/helmofpanes/input/InputEvent" = some m.cls := findClass_of_methodNamed Bd.named
  have hnm := (name_of_methodNamed Bd.named Bd.method).1
  have X0 : Stand p l e ({ frames := 0, cells := 0, slots := 0, locals := 0 } : Room) s m #[(.ref a), (.ref b)] below meth c s₁ [] 0 0 := Stand.of_body Bd
  have e0 : s₁.heap = h0 := by rw [← hh, Bd.state]; rfl
  have N0 := Fr.nil n0
  refine own_open fun K hK => ?_
  refine own_go (B := s₁.setTop (mkF m 0 #[.val (.ref a), .val (.ref b), .unset] [])) (fun t k => castTop (own_ef_eqP m a b) k) ?_
  refine own_go (B := s₁.setTop (mkF m 1 #[.val (.ref a), .val (.ref b), .unset] [(.ref a)])) (fun t k => XS.aloadN X0.here hx rfl (hb hby own_d1_0) rfl rfl k) ?_
  refine own_go (B := s₁.setTop (mkF m 2 #[.val (.ref a), .val (.ref b), .unset] [(.ref b), (.ref a)])) (fun t k => XS.aloadN X0.here hx rfl (hb hby own_d1_1) rfl rfl k) ?_
  refine own_go (B := s₁.setTop (mkF m 7 #[.val (.ref a), .val (.ref b), .unset] [])) (fun t k => Jvm.RoadKit.acmp (g := (mkF m 2 #[.val (.ref a), .val (.ref b), .unset] [(.ref b), (.ref a)])) X0 hx rfl rfl rfl (pc0 := 2) (pc' := 7) (same := false) rfl (hb hby own_d1_2) rfl (decide_eq_false fun q => hne (Value.ref.inj q)) (by decide) (by decide) k) ?_
  refine own_go (B := s₁.setTop (mkF m 8 #[.val (.ref a), .val (.ref b), .unset] [(.ref b)])) (fun t k => XS.aloadN X0.here hx rfl (hb hby own_d1_7) rfl rfl k) ?_
  obtain ⟨T42, X42, e42, st42⟩ := instY X0 hx hZ hown (hw _ (List.mem_of_getElem? (i := 25) rfl)) e0 (Ins.self E2) (g := (mkF m 8 #[.val (.ref a), .val (.ref b), .unset] [(.ref b)])) rfl rfl (hb hby own_d1_8)
  refine own_go (B := T42.setTop (mkF m 11 #[.val (.ref a), .val (.ref b), .unset] [(.int (1 : Int32))])) (fun t k => st42 _ k) ?_
  refine own_go (B := T42.setTop (mkF m 14 #[.val (.ref a), .val (.ref b), .unset] [])) (fun t k => XS.ifNo X42.here hx rfl (hb hby own_d1_11) rfl ((if0 _ _).trans (feq (by decide : ¬ ((1 : Int32) = (0 : Int32)))).1) k) ?_
  refine own_go (B := T42.setTop (mkF m 15 #[.val (.ref a), .val (.ref b), .unset] [(.ref b)])) (fun t k => XS.aloadN X42.here hx rfl (hb hby own_d1_14) rfl rfl k) ?_
  obtain ⟨T44, X44, e44, st44⟩ := castY X42 hx hZ hown (hw _ (List.mem_of_getElem? (i := 25) rfl)) e42 (Ins.self E2) (g := (mkF m 15 #[.val (.ref a), .val (.ref b), .unset] [(.ref b)])) rfl rfl (hb hby own_d1_15)
  refine own_go (B := T44.setTop (mkF m 18 #[.val (.ref a), .val (.ref b), .unset] [(.ref b)])) (fun t k => st44 _ k) ?_
  refine own_go (B := T44.setTop (mkF m 19 #[.val (.ref a), .val (.ref b), .val (.ref b)] [])) (fun t k => XS.astoreN X44.here hx rfl (hb hby own_d1_18) rfl rfl (l' := #[.val (.ref a), .val (.ref b), .val (.ref b)]) rfl k) ?_
  refine own_go (B := T44.setTop (mkF m 24 #[.val (.ref a), .val (.ref b), .val (.ref b)] [])) (fun t k => XS.goto X44.here hx rfl (pc0 := 19) (pc' := 24) rfl (hb hby own_d1_19) (by decide) (by decide) k) ?_
  refine own_go (B := T44.setTop (mkF m 25 #[.val (.ref a), .val (.ref b), .val (.ref b)] [(.ref a)])) (fun t k => XS.aloadN X44.here hx rfl (hb hby own_d1_24) rfl rfl k) ?_
  obtain ⟨T45, X45, e45, st45⟩ := getF X44 hx hZ hown (host := "") (Or.inl (hw _ (List.mem_of_getElem? (i := 12) rfl))) Via.refl e44 F0a (g := (mkF m 25 #[.val (.ref a), .val (.ref b), .val (.ref b)] [(.ref a)])) rfl rfl (hb hby own_d1_25)
  refine own_go (B := T45.setTop (mkF m 28 #[.val (.ref a), .val (.ref b), .val (.ref b)] [(.long t1)])) (fun t k => st45 _ k) ?_
  refine own_go (B := T45.setTop (mkF m 29 #[.val (.ref a), .val (.ref b), .val (.ref b)] [(.ref b), (.long t1)])) (fun t k => XS.aloadN X45.here hx rfl (hb hby own_d1_28) rfl rfl k) ?_
  obtain ⟨T46, X46, e46, st46⟩ := getF X45 hx hZ hown (host := "") (Or.inl (hw _ (List.mem_of_getElem? (i := 12) rfl))) Via.refl e45 F0b (g := (mkF m 29 #[.val (.ref a), .val (.ref b), .val (.ref b)] [(.ref b), (.long t1)])) rfl rfl (hb hby own_d1_29)
  refine own_go (B := T46.setTop (mkF m 32 #[.val (.ref a), .val (.ref b), .val (.ref b)] [(.long t2), (.long t1)])) (fun t k => st46 _ k) ?_
  refine own_go (B := T46.setTop (mkF m 33 #[.val (.ref a), .val (.ref b), .val (.ref b)] [(.int (lcmpW t1 t2))])) (fun t k => XS.lcmp X46.here hx rfl (hb hby own_d1_32) rfl k) ?_
  by_cases hc33_47 : t1 = t2
  · refine own_go (B := T46.setTop (mkF m 36 #[.val (.ref a), .val (.ref b), .val (.ref b)] [])) (fun t k => XS.ifNo X46.here hx rfl (hb hby own_d1_33) rfl ((if0 _ _).trans (teq ((lw_eq t1 t2).mpr hc33_47)).2) k) ?_
    refine own_go (B := T46.setTop (mkF m 37 #[.val (.ref a), .val (.ref b), .val (.ref b)] [(.ref a)])) (fun t k => XS.aloadN X46.here hx rfl (hb hby own_d1_36) rfl rfl k) ?_
    obtain ⟨T48, X48, e48, st48⟩ := getF X46 hx hZ hown (host := "") (Or.inl (hw _ (List.mem_of_getElem? (i := 14) rfl))) Via.refl e46 F1a (g := (mkF m 37 #[.val (.ref a), .val (.ref b), .val (.ref b)] [(.ref a)])) rfl rfl (hb hby own_d1_37)
    refine own_go (B := T48.setTop (mkF m 40 #[.val (.ref a), .val (.ref b), .val (.ref b)] [(.int y1)])) (fun t k => st48 _ k) ?_
    refine own_go (B := T48.setTop (mkF m 41 #[.val (.ref a), .val (.ref b), .val (.ref b)] [(.ref b), (.int y1)])) (fun t k => XS.aloadN X48.here hx rfl (hb hby own_d1_40) rfl rfl k) ?_
    obtain ⟨T49, X49, e49, st49⟩ := getF X48 hx hZ hown (host := "") (Or.inl (hw _ (List.mem_of_getElem? (i := 14) rfl))) Via.refl e48 F1b (g := (mkF m 41 #[.val (.ref a), .val (.ref b), .val (.ref b)] [(.ref b), (.int y1)])) rfl rfl (hb hby own_d1_41)
    refine own_go (B := T49.setTop (mkF m 44 #[.val (.ref a), .val (.ref b), .val (.ref b)] [(.int y2), (.int y1)])) (fun t k => st49 _ k) ?_
    by_cases hc44_50 : y1 = y2
    · refine own_go (B := T49.setTop (mkF m 47 #[.val (.ref a), .val (.ref b), .val (.ref b)] [])) (fun t k => XS.icmpNo X49.here hx rfl (hb hby own_d1_44) rfl (teq hc44_50).2 k) ?_
      refine own_go (B := T49.setTop (mkF m 48 #[.val (.ref a), .val (.ref b), .val (.ref b)] [(.ref a)])) (fun t k => XS.aloadN X49.here hx rfl (hb hby own_d1_47) rfl rfl k) ?_
      obtain ⟨T51, X51, e51, st51⟩ := getF X49 hx hZ hown (host := "") (Or.inl (hw _ (List.mem_of_getElem? (i := 16) rfl))) Via.refl e49 F2a (g := (mkF m 48 #[.val (.ref a), .val (.ref b), .val (.ref b)] [(.ref a)])) rfl rfl (hb hby own_d1_48)
      refine own_go (B := T51.setTop (mkF m 51 #[.val (.ref a), .val (.ref b), .val (.ref b)] [(.int d1)])) (fun t k => st51 _ k) ?_
      refine own_go (B := T51.setTop (mkF m 52 #[.val (.ref a), .val (.ref b), .val (.ref b)] [(.ref b), (.int d1)])) (fun t k => XS.aloadN X51.here hx rfl (hb hby own_d1_51) rfl rfl k) ?_
      obtain ⟨T52, X52, e52, st52⟩ := getF X51 hx hZ hown (host := "") (Or.inl (hw _ (List.mem_of_getElem? (i := 16) rfl))) Via.refl e51 F2b (g := (mkF m 52 #[.val (.ref a), .val (.ref b), .val (.ref b)] [(.ref b), (.int d1)])) rfl rfl (hb hby own_d1_52)
      refine own_go (B := T52.setTop (mkF m 55 #[.val (.ref a), .val (.ref b), .val (.ref b)] [(.int d2), (.int d1)])) (fun t k => st52 _ k) ?_
      by_cases hc55_53 : d1 = d2
      · refine own_go (B := T52.setTop (mkF m 58 #[.val (.ref a), .val (.ref b), .val (.ref b)] [])) (fun t k => XS.icmpNo X52.here hx rfl (hb hby own_d1_55) rfl (teq hc55_53).2 k) ?_
        refine own_go (B := T52.setTop (mkF m 59 #[.val (.ref a), .val (.ref b), .val (.ref b)] [(.ref a)])) (fun t k => XS.aloadN X52.here hx rfl (hb hby own_d1_58) rfl rfl k) ?_
        obtain ⟨T54, X54, e54, st54⟩ := getF X52 hx hZ hown (host := "") (Or.inl (hw _ (List.mem_of_getElem? (i := 18) rfl))) Via.refl e52 F3a (g := (mkF m 59 #[.val (.ref a), .val (.ref b), .val (.ref b)] [(.ref a)])) rfl rfl (hb hby own_d1_59)
        refine own_go (B := T54.setTop (mkF m 62 #[.val (.ref a), .val (.ref b), .val (.ref b)] [(.int v1)])) (fun t k => st54 _ k) ?_
        refine own_go (B := T54.setTop (mkF m 63 #[.val (.ref a), .val (.ref b), .val (.ref b)] [(.ref b), (.int v1)])) (fun t k => XS.aloadN X54.here hx rfl (hb hby own_d1_62) rfl rfl k) ?_
        obtain ⟨T55, X55, e55, st55⟩ := getF X54 hx hZ hown (host := "") (Or.inl (hw _ (List.mem_of_getElem? (i := 18) rfl))) Via.refl e54 F3b (g := (mkF m 63 #[.val (.ref a), .val (.ref b), .val (.ref b)] [(.ref b), (.int v1)])) rfl rfl (hb hby own_d1_63)
        refine own_go (B := T55.setTop (mkF m 66 #[.val (.ref a), .val (.ref b), .val (.ref b)] [(.int v2), (.int v1)])) (fun t k => st55 _ k) ?_
        by_cases hc66_56 : v1 = v2
        · refine own_go (B := T55.setTop (mkF m 69 #[.val (.ref a), .val (.ref b), .val (.ref b)] [])) (fun t k => XS.icmpNo X55.here hx rfl (hb hby own_d1_66) rfl (teq hc66_56).2 k) ?_
          refine own_go (B := T55.setTop (mkF m 70 #[.val (.ref a), .val (.ref b), .val (.ref b)] [(.int (1 : Int32))])) (fun t k => XS.iconst X55.here hx rfl (hb hby own_d1_69) k) ?_
          refine own_go (B := T55.setTop (mkF m 74 #[.val (.ref a), .val (.ref b), .val (.ref b)] [(.int (1 : Int32))])) (fun t k => XS.goto X55.here hx rfl (pc0 := 70) (pc' := 74) rfl (hb hby own_d1_70) (by decide) (by decide) k) ?_
          obtain ⟨fs, hr, hrun, hended, hW, hsame⟩ := X55.leave (v := some (.int (1 : Int32))) (fun h => by rw [Bd.returns] at h; cases h)
          refine ⟨_, _, retN X55 hx (t := .boolean) Bd.returns (by simp) (hb hby own_d1_74) hr, hK _ _ ⟨hrun, hended, _, _, rfl, ?_, ⟨_, rfl⟩, hW, hsame.mono (by decide) (by decide)⟩⟩
          show own_Q_eqP Z a b t1 t2 y1 d1 v1 y2 d2 v2 r h0 n0 _ T55.heap _
          rw [e55]
          exact ⟨(by rw [hr0]; simp [hc33_47, hc44_50, hc55_53, hc66_56]), N0, rfl⟩
        · refine own_go (B := T55.setTop (mkF m 73 #[.val (.ref a), .val (.ref b), .val (.ref b)] [])) (fun t k => XS.icmpYes X55.here hx rfl (pc0 := 66) (pc' := 73) rfl (hb hby own_d1_66) rfl (feq hc66_56).2 (by decide) (by decide) k) ?_
          refine own_go (B := T55.setTop (mkF m 74 #[.val (.ref a), .val (.ref b), .val (.ref b)] [(.int (0 : Int32))])) (fun t k => XS.iconst X55.here hx rfl (hb hby own_d1_73) k) ?_
          obtain ⟨fs, hr, hrun, hended, hW, hsame⟩ := X55.leave (v := some (.int (0 : Int32))) (fun h => by rw [Bd.returns] at h; cases h)
          refine ⟨_, _, retN X55 hx (t := .boolean) Bd.returns (by simp) (hb hby own_d1_74) hr, hK _ _ ⟨hrun, hended, _, _, rfl, ?_, ⟨_, rfl⟩, hW, hsame.mono (by decide) (by decide)⟩⟩
          show own_Q_eqP Z a b t1 t2 y1 d1 v1 y2 d2 v2 r h0 n0 _ T55.heap _
          rw [e55]
          exact ⟨(by rw [hr0]; simp [hc33_47, hc44_50, hc55_53, hc66_56]), N0, rfl⟩
      · refine own_go (B := T52.setTop (mkF m 73 #[.val (.ref a), .val (.ref b), .val (.ref b)] [])) (fun t k => XS.icmpYes X52.here hx rfl (pc0 := 55) (pc' := 73) rfl (hb hby own_d1_55) rfl (feq hc55_53).2 (by decide) (by decide) k) ?_
        refine own_go (B := T52.setTop (mkF m 74 #[.val (.ref a), .val (.ref b), .val (.ref b)] [(.int (0 : Int32))])) (fun t k => XS.iconst X52.here hx rfl (hb hby own_d1_73) k) ?_
        obtain ⟨fs, hr, hrun, hended, hW, hsame⟩ := X52.leave (v := some (.int (0 : Int32))) (fun h => by rw [Bd.returns] at h; cases h)
        refine ⟨_, _, retN X52 hx (t := .boolean) Bd.returns (by simp) (hb hby own_d1_74) hr, hK _ _ ⟨hrun, hended, _, _, rfl, ?_, ⟨_, rfl⟩, hW, hsame.mono (by decide) (by decide)⟩⟩
        show own_Q_eqP Z a b t1 t2 y1 d1 v1 y2 d2 v2 r h0 n0 _ T52.heap _
        rw [e52]
        exact ⟨(by rw [hr0]; simp [hc33_47, hc44_50, hc55_53]), N0, rfl⟩
    · refine own_go (B := T49.setTop (mkF m 73 #[.val (.ref a), .val (.ref b), .val (.ref b)] [])) (fun t k => XS.icmpYes X49.here hx rfl (pc0 := 44) (pc' := 73) rfl (hb hby own_d1_44) rfl (feq hc44_50).2 (by decide) (by decide) k) ?_
      refine own_go (B := T49.setTop (mkF m 74 #[.val (.ref a), .val (.ref b), .val (.ref b)] [(.int (0 : Int32))])) (fun t k => XS.iconst X49.here hx rfl (hb hby own_d1_73) k) ?_
      obtain ⟨fs, hr, hrun, hended, hW, hsame⟩ := X49.leave (v := some (.int (0 : Int32))) (fun h => by rw [Bd.returns] at h; cases h)
      refine ⟨_, _, retN X49 hx (t := .boolean) Bd.returns (by simp) (hb hby own_d1_74) hr, hK _ _ ⟨hrun, hended, _, _, rfl, ?_, ⟨_, rfl⟩, hW, hsame.mono (by decide) (by decide)⟩⟩
      show own_Q_eqP Z a b t1 t2 y1 d1 v1 y2 d2 v2 r h0 n0 _ T49.heap _
      rw [e49]
      exact ⟨(by rw [hr0]; simp [hc33_47, hc44_50]), N0, rfl⟩
  · refine own_go (B := T46.setTop (mkF m 73 #[.val (.ref a), .val (.ref b), .val (.ref b)] [])) (fun t k => XS.ifYes X46.here hx rfl (pc0 := 33) (pc' := 73) rfl (hb hby own_d1_33) rfl ((if0 _ _).trans (feq (fun q => hc33_47 ((lw_eq t1 t2).mp q))).2) (by decide) (by decide) k) ?_
    refine own_go (B := T46.setTop (mkF m 74 #[.val (.ref a), .val (.ref b), .val (.ref b)] [(.int (0 : Int32))])) (fun t k => XS.iconst X46.here hx rfl (hb hby own_d1_73) k) ?_
    obtain ⟨fs, hr, hrun, hended, hW, hsame⟩ := X46.leave (v := some (.int (0 : Int32))) (fun h => by rw [Bd.returns] at h; cases h)
    refine ⟨_, _, retN X46 hx (t := .boolean) Bd.returns (by simp) (hb hby own_d1_74) hr, hK _ _ ⟨hrun, hended, _, _, rfl, ?_, ⟨_, rfl⟩, hW, hsame.mono (by decide) (by decide)⟩⟩
    show own_Q_eqP Z a b t1 t2 y1 d1 v1 y2 d2 v2 r h0 n0 _ T46.heap _
    rw [e46]
    exact ⟨(by rw [hr0]; simp [hc33_47]), N0, rfl⟩
theorem own_d1_5 : decode prog_25_method_8_code 5 = .ok (.iconst 1, 1) := by decide +kernel
theorem own_d1_6 : decode prog_25_method_8_code 6 = .ok (.ireturn, 1) := by decide +kernel
theorem own_ef_eqS (m : MethodId) (x0 : Addr) (x1 : Addr)  : entryFrame m #[(.ref x0), (.ref x1)] 3 = mkF m 0 #[.val (.ref x0), .val (.ref x1), .unset] [] := by first | (simp [entryFrame, mkF, argsToLocals, Value.category]; done) | rfl
def own_Q_eqS (Z : State) (a : Addr) (h0 : Heap) (n0 : Nat) (v : Option Value) (h : Heap) (L : List Loc) : Prop := v = some (.int (1 : Int32)) ∧ Fr n0 L ∧ h = h0
set_option maxRecDepth 65536 in
set_option maxHeartbeats 40000000 in
theorem own_rm_eqS (l : Launch) (Z : State) (a0 : Array Value) (hw : ∀ d ∈ tables_1, d.before a0 Z = true) (ws : List Jvm.Cond) (a : Addr) (h0 : Heap) (n0 : Nat) (O0 : Old Z n0 h0) :
    MetFree l (⟨"com/example/helm_of_panes/helmofpanes/input/InputEvent", "equals", "(Ljava/lang/Object;)Z"⟩ : MethodName) (head1 (Jvm.Cond.code (⟨"com/example/helm_of_panes/helmofpanes/input/InputEvent", "equals", "(Ljava/lang/Object;)Z"⟩ : MethodName) prog_25_method_8_code 3 (some .boolean) :: ws) ({ frames := 0, cells := 0, slots := 0, locals := 0 } : Room)) (fun ar9 U => ar9 = #[(.ref a), (.ref a)] ∧ Z.Warmed39 U.vm ∧ U.heap = h0) (fun _ _ _ _ _ => True) (fun _ U o U' => ∃ v L, o = .returned v ∧ own_Q_eqS Z a h0 n0 v U'.heap L ∧ FrameEnd U o U' L ({ frames := 0, cells := 0, slots := 0, locals := 0 } : Room).cells ({ frames := 0, cells := 0, slots := 0, locals := 0 } : Room).slots) := by
  refine MetFree.of_bodySF (plainFor_of_name own_pn_2) hisR ?_
  intro p e s m args below meth c s₁ Bd hml0 hP hK0
  obtain ⟨rfl, hZ, hh⟩ := hP
  have hx := Bd.exec
  have hby := Bd.bytes
  have hml : c.maxLocals = 3 := hml0
  have hown : s.vm.findClass "com/example/helm_of_panes/helmofpanes/input/InputEvent" = some m.cls := findClass_of_methodNamed Bd.named
  have hnm := (name_of_methodNamed Bd.named Bd.method).1
  have X0 : Stand p l e ({ frames := 0, cells := 0, slots := 0, locals := 0 } : Room) s m #[(.ref a), (.ref a)] below meth c s₁ [] 0 0 := Stand.of_body Bd
  have e0 : s₁.heap = h0 := by rw [← hh, Bd.state]; rfl
  have N0 := Fr.nil n0
  refine own_open fun K hK => ?_
  refine own_go (B := s₁.setTop (mkF m 0 #[.val (.ref a), .val (.ref a), .unset] [])) (fun t k => castTop (own_ef_eqS m a a) k) ?_
  refine own_go (B := s₁.setTop (mkF m 1 #[.val (.ref a), .val (.ref a), .unset] [(.ref a)])) (fun t k => XS.aloadN X0.here hx rfl (hb hby own_d1_0) rfl rfl k) ?_
  refine own_go (B := s₁.setTop (mkF m 2 #[.val (.ref a), .val (.ref a), .unset] [(.ref a), (.ref a)])) (fun t k => XS.aloadN X0.here hx rfl (hb hby own_d1_1) rfl rfl k) ?_
  refine own_go (B := s₁.setTop (mkF m 5 #[.val (.ref a), .val (.ref a), .unset] [])) (fun t k => Jvm.RoadKit.acmp (g := (mkF m 2 #[.val (.ref a), .val (.ref a), .unset] [(.ref a), (.ref a)])) X0 hx rfl rfl rfl (pc0 := 2) (pc' := 5) (same := true) rfl (hb hby own_d1_2) rfl (decide_eq_true rfl) (by decide) (by decide) k) ?_
  refine own_go (B := s₁.setTop (mkF m 6 #[.val (.ref a), .val (.ref a), .unset] [(.int (1 : Int32))])) (fun t k => XS.iconst X0.here hx rfl (hb hby own_d1_5) k) ?_
  obtain ⟨fs, hr, hrun, hended, hW, hsame⟩ := X0.leave (v := some (.int (1 : Int32))) (fun h => by rw [Bd.returns] at h; cases h)
  refine ⟨_, _, retN X0 hx (t := .boolean) Bd.returns (by simp) (hb hby own_d1_6) hr, hK _ _ ⟨hrun, hended, _, _, rfl, ?_, ⟨_, rfl⟩, hW, hsame.mono (by decide) (by decide)⟩⟩
  show own_Q_eqS Z a h0 n0 _ s₁.heap _
  rw [e0]
  exact ⟨rfl, N0, rfl⟩
theorem own_d1_22 : decode prog_25_method_8_code 22 = .ok (.iconst 0, 1) := by decide +kernel
theorem own_d1_23 : decode prog_25_method_8_code 23 = .ok (.ireturn, 1) := by decide +kernel
theorem own_ef_eqN (m : MethodId) (x0 : Addr)  : entryFrame m #[(.ref x0), .null] 3 = mkF m 0 #[.val (.ref x0), .val .null, .unset] [] := by first | (simp [entryFrame, mkF, argsToLocals, Value.category]; done) | rfl
def own_Q_eqN (Z : State) (a : Addr) (h0 : Heap) (n0 : Nat) (v : Option Value) (h : Heap) (L : List Loc) : Prop := v = some (.int (0 : Int32)) ∧ Fr n0 L ∧ h = h0
set_option maxRecDepth 65536 in
set_option maxHeartbeats 40000000 in
theorem own_rm_eqN (l : Launch) (Z : State) (a0 : Array Value) (hw : ∀ d ∈ tables_1, d.before a0 Z = true) (ws : List Jvm.Cond) (a : Addr) (h0 : Heap) (n0 : Nat) (O0 : Old Z n0 h0) :
    MetFree l (⟨"com/example/helm_of_panes/helmofpanes/input/InputEvent", "equals", "(Ljava/lang/Object;)Z"⟩ : MethodName) (head1 (Jvm.Cond.code (⟨"com/example/helm_of_panes/helmofpanes/input/InputEvent", "equals", "(Ljava/lang/Object;)Z"⟩ : MethodName) prog_25_method_8_code 3 (some .boolean) :: ws) ({ frames := 0, cells := 0, slots := 0, locals := 0 } : Room)) (fun ar9 U => ar9 = #[(.ref a), .null] ∧ Z.Warmed39 U.vm ∧ U.heap = h0) (fun _ _ _ _ _ => True) (fun _ U o U' => ∃ v L, o = .returned v ∧ own_Q_eqN Z a h0 n0 v U'.heap L ∧ FrameEnd U o U' L ({ frames := 0, cells := 0, slots := 0, locals := 0 } : Room).cells ({ frames := 0, cells := 0, slots := 0, locals := 0 } : Room).slots) := by
  refine MetFree.of_bodySF (plainFor_of_name own_pn_2) hisR ?_
  intro p e s m args below meth c s₁ Bd hml0 hP hK0
  obtain ⟨rfl, hZ, hh⟩ := hP
  have hx := Bd.exec
  have hby := Bd.bytes
  have hml : c.maxLocals = 3 := hml0
  have hown : s.vm.findClass "com/example/helm_of_panes/helmofpanes/input/InputEvent" = some m.cls := findClass_of_methodNamed Bd.named
  have hnm := (name_of_methodNamed Bd.named Bd.method).1
  have X0 : Stand p l e ({ frames := 0, cells := 0, slots := 0, locals := 0 } : Room) s m #[(.ref a), .null] below meth c s₁ [] 0 0 := Stand.of_body Bd
  have e0 : s₁.heap = h0 := by rw [← hh, Bd.state]; rfl
  have N0 := Fr.nil n0
  refine own_open fun K hK => ?_
  refine own_go (B := s₁.setTop (mkF m 0 #[.val (.ref a), .val .null, .unset] [])) (fun t k => castTop (own_ef_eqN m a) k) ?_
  refine own_go (B := s₁.setTop (mkF m 1 #[.val (.ref a), .val .null, .unset] [(.ref a)])) (fun t k => XS.aloadN X0.here hx rfl (hb hby own_d1_0) rfl rfl k) ?_
  refine own_go (B := s₁.setTop (mkF m 2 #[.val (.ref a), .val .null, .unset] [.null, (.ref a)])) (fun t k => XS.aloadN X0.here hx rfl (hb hby own_d1_1) rfl rfl k) ?_
  refine own_go (B := s₁.setTop (mkF m 7 #[.val (.ref a), .val .null, .unset] [])) (fun t k => Jvm.RoadKit.acmp (g := (mkF m 2 #[.val (.ref a), .val .null, .unset] [.null, (.ref a)])) X0 hx rfl rfl rfl (pc0 := 2) (pc' := 7) (same := false) rfl (hb hby own_d1_2) rfl (decide_eq_false nofun) (by decide) (by decide) k) ?_
  refine own_go (B := s₁.setTop (mkF m 8 #[.val (.ref a), .val .null, .unset] [.null])) (fun t k => XS.aloadN X0.here hx rfl (hb hby own_d1_7) rfl rfl k) ?_
  refine own_go (B := s₁.setTop (mkF m 11 #[.val (.ref a), .val .null, .unset] [(.int (0 : Int32))])) (fun t k => X0.instanceofNull hx (g := (mkF m 8 #[.val (.ref a), .val .null, .unset] [.null])) rfl rfl (hb hby own_d1_8) _ k) ?_
  refine own_go (B := s₁.setTop (mkF m 22 #[.val (.ref a), .val .null, .unset] [])) (fun t k => XS.ifYes X0.here hx rfl (pc0 := 11) (pc' := 22) rfl (hb hby own_d1_11) rfl ((if0 _ _).trans (teq (by decide : (0 : Int32) = (0 : Int32))).1) (by decide) (by decide) k) ?_
  refine own_go (B := s₁.setTop (mkF m 23 #[.val (.ref a), .val .null, .unset] [(.int (0 : Int32))])) (fun t k => XS.iconst X0.here hx rfl (hb hby own_d1_22) k) ?_
  obtain ⟨fs, hr, hrun, hended, hW, hsame⟩ := X0.leave (v := some (.int (0 : Int32))) (fun h => by rw [Bd.returns] at h; cases h)
  refine ⟨_, _, retN X0 hx (t := .boolean) Bd.returns (by simp) (hb hby own_d1_23) hr, hK _ _ ⟨hrun, hended, _, _, rfl, ?_, ⟨_, rfl⟩, hW, hsame.mono (by decide) (by decide)⟩⟩
  show own_Q_eqN Z a h0 n0 _ s₁.heap _
  rw [e0]
  exact ⟨rfl, N0, rfl⟩
theorem own_ef_eqI (m : MethodId) (x0 : Addr) (x1 : Addr)  : entryFrame m #[(.ref x0), (.ref x1)] 3 = mkF m 0 #[.val (.ref x0), .val (.ref x1), .unset] [] := by first | (simp [entryFrame, mkF, argsToLocals, Value.category]; done) | rfl
def own_Q_eqI (Z : State) (a b : Addr) (h0 : Heap) (n0 : Nat) (v : Option Value) (h : Heap) (L : List Loc) : Prop := v = some (.int (0 : Int32)) ∧ Fr n0 L ∧ h = h0
set_option maxRecDepth 65536 in
set_option maxHeartbeats 40000000 in
theorem own_rm_eqI (l : Launch) (Z : State) (a0 : Array Value) (hw : ∀ d ∈ tables_1, d.before a0 Z = true) (ws : List Jvm.Cond) (a b : Addr) (h0 : Heap) (n0 : Nat) (O0 : Old Z n0 h0) (hne : a ≠ b) (E2 : Exa Z h0 b "java/lang/Integer") (I2 : Ins Z h0 b "com/example/helm_of_panes/helmofpanes/input/InputEvent" false) :
    MetFree l (⟨"com/example/helm_of_panes/helmofpanes/input/InputEvent", "equals", "(Ljava/lang/Object;)Z"⟩ : MethodName) (head1 (Jvm.Cond.code (⟨"com/example/helm_of_panes/helmofpanes/input/InputEvent", "equals", "(Ljava/lang/Object;)Z"⟩ : MethodName) prog_25_method_8_code 3 (some .boolean) :: ws) ({ frames := 0, cells := 0, slots := 0, locals := 0 } : Room)) (fun ar9 U => ar9 = #[(.ref a), (.ref b)] ∧ Z.Warmed39 U.vm ∧ U.heap = h0) (fun _ _ _ _ _ => True) (fun _ U o U' => ∃ v L, o = .returned v ∧ own_Q_eqI Z a b h0 n0 v U'.heap L ∧ FrameEnd U o U' L ({ frames := 0, cells := 0, slots := 0, locals := 0 } : Room).cells ({ frames := 0, cells := 0, slots := 0, locals := 0 } : Room).slots) := by
  refine MetFree.of_bodySF (plainFor_of_name own_pn_2) hisR ?_
  intro p e s m args below meth c s₁ Bd hml0 hP hK0
  obtain ⟨rfl, hZ, hh⟩ := hP
  have hx := Bd.exec
  have hby := Bd.bytes
  have hml : c.maxLocals = 3 := hml0
  have hown : s.vm.findClass "com/example/helm_of_panes/helmofpanes/input/InputEvent" = some m.cls := findClass_of_methodNamed Bd.named
  have hnm := (name_of_methodNamed Bd.named Bd.method).1
  have X0 : Stand p l e ({ frames := 0, cells := 0, slots := 0, locals := 0 } : Room) s m #[(.ref a), (.ref b)] below meth c s₁ [] 0 0 := Stand.of_body Bd
  have e0 : s₁.heap = h0 := by rw [← hh, Bd.state]; rfl
  have N0 := Fr.nil n0
  refine own_open fun K hK => ?_
  refine own_go (B := s₁.setTop (mkF m 0 #[.val (.ref a), .val (.ref b), .unset] [])) (fun t k => castTop (own_ef_eqI m a b) k) ?_
  refine own_go (B := s₁.setTop (mkF m 1 #[.val (.ref a), .val (.ref b), .unset] [(.ref a)])) (fun t k => XS.aloadN X0.here hx rfl (hb hby own_d1_0) rfl rfl k) ?_
  refine own_go (B := s₁.setTop (mkF m 2 #[.val (.ref a), .val (.ref b), .unset] [(.ref b), (.ref a)])) (fun t k => XS.aloadN X0.here hx rfl (hb hby own_d1_1) rfl rfl k) ?_
  refine own_go (B := s₁.setTop (mkF m 7 #[.val (.ref a), .val (.ref b), .unset] [])) (fun t k => Jvm.RoadKit.acmp (g := (mkF m 2 #[.val (.ref a), .val (.ref b), .unset] [(.ref b), (.ref a)])) X0 hx rfl rfl rfl (pc0 := 2) (pc' := 7) (same := false) rfl (hb hby own_d1_2) rfl (decide_eq_false fun q => hne (Value.ref.inj q)) (by decide) (by decide) k) ?_
  refine own_go (B := s₁.setTop (mkF m 8 #[.val (.ref a), .val (.ref b), .unset] [(.ref b)])) (fun t k => XS.aloadN X0.here hx rfl (hb hby own_d1_7) rfl rfl k) ?_
  obtain ⟨T65, X65, e65, st65⟩ := instN X0 hx hZ hown (hw _ (List.mem_of_getElem? (i := 25) rfl)) e0 (by rw [hh]; exact I2) (by rw [hh]; exact E2) (g := (mkF m 8 #[.val (.ref a), .val (.ref b), .unset] [(.ref b)])) rfl rfl (hb hby own_d1_8)
  refine own_go (B := T65.setTop (mkF m 11 #[.val (.ref a), .val (.ref b), .unset] [(.int (0 : Int32))])) (fun t k => st65 _ k) ?_
  refine own_go (B := T65.setTop (mkF m 22 #[.val (.ref a), .val (.ref b), .unset] [])) (fun t k => XS.ifYes X65.here hx rfl (pc0 := 11) (pc' := 22) rfl (hb hby own_d1_11) rfl ((if0 _ _).trans (teq (by decide : (0 : Int32) = (0 : Int32))).1) (by decide) (by decide) k) ?_
  refine own_go (B := T65.setTop (mkF m 23 #[.val (.ref a), .val (.ref b), .unset] [(.int (0 : Int32))])) (fun t k => XS.iconst X65.here hx rfl (hb hby own_d1_22) k) ?_
  obtain ⟨fs, hr, hrun, hended, hW, hsame⟩ := X65.leave (v := some (.int (0 : Int32))) (fun h => by rw [Bd.returns] at h; cases h)
  refine ⟨_, _, retN X65 hx (t := .boolean) Bd.returns (by simp) (hb hby own_d1_23) hr, hK _ _ ⟨hrun, hended, _, _, rfl, ?_, ⟨_, rfl⟩, hW, hsame.mono (by decide) (by decide)⟩⟩
  show own_Q_eqI Z a b h0 n0 _ T65.heap _
  rw [e65]
  exact ⟨rfl, N0, rfl⟩
theorem own_m63 (x : Int64) : ¬ ((x &&& (9223372036854775807 : Int64)) < (0 : Int64)) ∧ True := by
  have h := c_maskL x 9223372036854775807 63 (by decide) (by decide)
  refine ⟨?_, trivial⟩
  rw [Int64.lt_iff_toInt_lt, h]
  have : (0 : Int64).toInt = 0 := rfl
  omega
theorem own_m16 (x : Int32) : ¬ ((x &&& (65535 : Int32)) < (0 : Int32)) ∧ ¬ ((65535 : Int32) < (x &&& (65535 : Int32))) := by
  have h := c_mask x 65535 16 (by decide) (by decide)
  rw [Int32.lt_iff_toInt_lt, Int32.lt_iff_toInt_lt, h]
  have h0 : (0 : Int32).toInt = 0 := rfl
  have h1 : (65535 : Int32).toInt = 65535 := rfl
  omega
theorem own_u16 (x : Int32) : ¬ (((x.toUInt32 >>> ((16 : Int32) &&& 31).toUInt32).toInt32) < (0 : Int32)) ∧ ¬ ((65535 : Int32) < ((x.toUInt32 >>> ((16 : Int32) &&& 31).toUInt32).toInt32)) := by
  have h := c_iushr x 16 16 (by decide) (by decide)
  rw [Int32.lt_iff_toInt_lt, Int32.lt_iff_toInt_lt, h]
  have h0 : (0 : Int32).toInt = 0 := rfl
  have h1 : (65535 : Int32).toInt = 65535 := rfl
  omega
theorem own_pd_2 : parseMethodDescriptor "(JIII)V" = some ⟨[.long, .int, .int, .int], none⟩ := by decide +kernel
theorem own_pd_3 : parseMethodDescriptor "(Ljava/lang/Object;)Z" = some ⟨[(.object "java/lang/Object")], some .boolean⟩ := by decide +kernel
theorem own_pd_4 : parseMethodDescriptor "(I)Ljava/lang/Integer;" = some ⟨[.int], some (.object "java/lang/Integer")⟩ := by decide +kernel
theorem own_pn_3 : plainName "com/example/helm_of_panes/helmofpanes/input/InputEventEqualsPinLaw" = true := by first | (simp [plainName, overriddenIn]; done) | decide +kernel
theorem own_ef_law (m : MethodId) (x0 : Int64) (x1 : Int64) (x2 : Int32) (x3 : Int32) (x4 : Int32) (x5 : Int32)  : entryFrame m #[(.long x0), (.long x1), (.int x2), (.int x3), (.int x4), (.int x5)] maxLocals = mkF m 0 #[.val (.long x0), .second, .val (.long x1), .second, .val (.int x2), .val (.int x3), .val (.int x4), .val (.int x5), .unset, .unset, .unset, .unset, .unset, .unset, .unset, .unset, .unset, .unset, .unset, .unset, .unset] [] := by first | (simp [entryFrame, mkF, argsToLocals, Value.category, maxLocals]; done) | rfl
def own_Q_law (Z : State) (p1 : Int64) (p2 : Int64) (p3 : Int32) (p4 : Int32) (p5 : Int32) (p6 : Int32) (w_cache : Addr) (cl : Cell) (h0 : Heap) (n0 : Nat) (v : Option Value) (h : Heap) (L : List Loc) : Prop := v = some (.int 1) ∧ Fr n0 L
set_option maxRecDepth 65536 in
set_option maxHeartbeats 40000000 in
theorem own_rm_law (l : Launch) (Z : State) (a0 : Array Value) (hw : ∀ d ∈ tables_1, d.before a0 Z = true) (ws : List Jvm.Cond) (p1 : Int64) (p2 : Int64) (p3 : Int32) (p4 : Int32) (p5 : Int32) (p6 : Int32) (w_cache : Addr) (cl : Cell) (h0 : Heap) (n0 : Nat) (O0 : Old Z n0 h0) (Hc : own_Cache Z w_cache cl) :
    MetFree l x (head1 (Jvm.Cond.code x code maxLocals ret :: ws) room_1) (fun ar9 U => ar9 = #[(.long p1), (.long p2), (.int p3), (.int p4), (.int p5), (.int p6)] ∧ Z.Warmed39 U.vm ∧ U.heap = h0) (fun _ _ _ _ _ => True) (fun _ U o U' => ∃ v L, o = .returned v ∧ own_Q_law Z p1 p2 p3 p4 p5 p6 w_cache cl h0 n0 v U'.heap L ∧ FrameEnd U o U' L room_1.cells room_1.slots) := by
  refine MetFree.of_bodySF (plainFor_of_name own_pn_3) hisR ?_
  intro p e s m args below meth c s₁ Bd hml0 hP hK0
  obtain ⟨rfl, hZ, hh⟩ := hP
  have hx := Bd.exec
  have hby := Bd.bytes
  have hml : c.maxLocals = 21 := hml0
  have hown : s.vm.findClass "com/example/helm_of_panes/helmofpanes/input/InputEventEqualsPinLaw" = some m.cls := findClass_of_methodNamed Bd.named
  have hnm := (name_of_methodNamed Bd.named Bd.method).1
  have X0 : Stand p l e room_1 s m #[(.long p1), (.long p2), (.int p3), (.int p4), (.int p5), (.int p6)] below meth c s₁ [] 0 0 := Stand.of_body Bd
  have e0 : s₁.heap = h0 := by rw [← hh, Bd.state]; rfl
  have N0 := Fr.nil n0
  refine own_open fun K hK => ?_
  refine own_go (B := s₁.setTop (mkF m 0 #[.val (.long p1), .second, .val (.long p2), .second, .val (.int p3), .val (.int p4), .val (.int p5), .val (.int p6), .unset, .unset, .unset, .unset, .unset, .unset, .unset, .unset, .unset, .unset, .unset, .unset, .unset] [])) (fun t k => castTop (own_ef_law m p1 p2 p3 p4 p5 p6) k) ?_
  refine own_go (B := s₁.setTop (mkF m 1 #[.val (.long p1), .second, .val (.long p2), .second, .val (.int p3), .val (.int p4), .val (.int p5), .val (.int p6), .unset, .unset, .unset, .unset, .unset, .unset, .unset, .unset, .unset, .unset, .unset, .unset, .unset] [(.long p1)])) (fun t k => XS.lloadN X0.here hx rfl (hb hby at_0) rfl k) ?_
  refine own_go (B := s₁.setTop (mkF m 4 #[.val (.long p1), .second, .val (.long p2), .second, .val (.int p3), .val (.int p4), .val (.int p5), .val (.int p6), .unset, .unset, .unset, .unset, .unset, .unset, .unset, .unset, .unset, .unset, .unset, .unset, .unset] [(.long (9223372036854775807 : Int64)), (.long p1)])) (fun t k => X0.ldc2Long hx hown (mvT hZ (hw _ (List.mem_of_getElem? (i := 0) rfl))) (g := (mkF m 1 #[.val (.long p1), .second, .val (.long p2), .second, .val (.int p3), .val (.int p4), .val (.int p5), .val (.int p6), .unset, .unset, .unset, .unset, .unset, .unset, .unset, .unset, .unset, .unset, .unset, .unset, .unset] [(.long p1)])) rfl (hb hby at_1) _ k) ?_
  refine own_go (B := s₁.setTop (mkF m 5 #[.val (.long p1), .second, .val (.long p2), .second, .val (.int p3), .val (.int p4), .val (.int p5), .val (.int p6), .unset, .unset, .unset, .unset, .unset, .unset, .unset, .unset, .unset, .unset, .unset, .unset, .unset] [(.long (p1 &&& (9223372036854775807 : Int64)))])) (fun t k => XS.land X0.here hx rfl (hb hby at_4) rfl k) ?_
  refine own_go (B := s₁.setTop (mkF m 7 #[.val (.long p1), .second, .val (.long p2), .second, .val (.int p3), .val (.int p4), .val (.int p5), .val (.int p6), .val (.long (p1 &&& (9223372036854775807 : Int64))), .second, .unset, .unset, .unset, .unset, .unset, .unset, .unset, .unset, .unset, .unset, .unset] [])) (fun t k => XS.lstore X0.here hx rfl (hb hby at_5) rfl (l' := #[.val (.long p1), .second, .val (.long p2), .second, .val (.int p3), .val (.int p4), .val (.int p5), .val (.int p6), .val (.long (p1 &&& (9223372036854775807 : Int64))), .second, .unset, .unset, .unset, .unset, .unset, .unset, .unset, .unset, .unset, .unset, .unset]) rfl k) ?_
  obtain ⟨ta, hta⟩ : ∃ z, z = (p1 &&& (9223372036854775807 : Int64)) := ⟨_, rfl⟩
  rw [← hta]
  have Rta := own_m63 p1; rw [← hta] at Rta
  refine own_go (B := s₁.setTop (mkF m 8 #[.val (.long p1), .second, .val (.long p2), .second, .val (.int p3), .val (.int p4), .val (.int p5), .val (.int p6), .val (.long ta), .second, .unset, .unset, .unset, .unset, .unset, .unset, .unset, .unset, .unset, .unset, .unset] [(.long p2)])) (fun t k => XS.lloadN X0.here hx rfl (hb hby at_7) rfl k) ?_
  refine own_go (B := s₁.setTop (mkF m 11 #[.val (.long p1), .second, .val (.long p2), .second, .val (.int p3), .val (.int p4), .val (.int p5), .val (.int p6), .val (.long ta), .second, .unset, .unset, .unset, .unset, .unset, .unset, .unset, .unset, .unset, .unset, .unset] [(.long (9223372036854775807 : Int64)), (.long p2)])) (fun t k => X0.ldc2Long hx hown (mvT hZ (hw _ (List.mem_of_getElem? (i := 0) rfl))) (g := (mkF m 8 #[.val (.long p1), .second, .val (.long p2), .second, .val (.int p3), .val (.int p4), .val (.int p5), .val (.int p6), .val (.long ta), .second, .unset, .unset, .unset, .unset, .unset, .unset, .unset, .unset, .unset, .unset, .unset] [(.long p2)])) rfl (hb hby at_8) _ k) ?_
  refine own_go (B := s₁.setTop (mkF m 12 #[.val (.long p1), .second, .val (.long p2), .second, .val (.int p3), .val (.int p4), .val (.int p5), .val (.int p6), .val (.long ta), .second, .unset, .unset, .unset, .unset, .unset, .unset, .unset, .unset, .unset, .unset, .unset] [(.long (p2 &&& (9223372036854775807 : Int64)))])) (fun t k => XS.land X0.here hx rfl (hb hby at_11) rfl k) ?_
  refine own_go (B := s₁.setTop (mkF m 14 #[.val (.long p1), .second, .val (.long p2), .second, .val (.int p3), .val (.int p4), .val (.int p5), .val (.int p6), .val (.long ta), .second, .val (.long (p2 &&& (9223372036854775807 : Int64))), .second, .unset, .unset, .unset, .unset, .unset, .unset, .unset, .unset, .unset] [])) (fun t k => XS.lstore X0.here hx rfl (hb hby at_12) rfl (l' := #[.val (.long p1), .second, .val (.long p2), .second, .val (.int p3), .val (.int p4), .val (.int p5), .val (.int p6), .val (.long ta), .second, .val (.long (p2 &&& (9223372036854775807 : Int64))), .second, .unset, .unset, .unset, .unset, .unset, .unset, .unset, .unset, .unset]) rfl k) ?_
  obtain ⟨tb, htb⟩ : ∃ z, z = (p2 &&& (9223372036854775807 : Int64)) := ⟨_, rfl⟩
  rw [← htb]
  have Rtb := own_m63 p2; rw [← htb] at Rtb
  refine own_go (B := s₁.setTop (mkF m 16 #[.val (.long p1), .second, .val (.long p2), .second, .val (.int p3), .val (.int p4), .val (.int p5), .val (.int p6), .val (.long ta), .second, .val (.long tb), .second, .unset, .unset, .unset, .unset, .unset, .unset, .unset, .unset, .unset] [(.int p3)])) (fun t k => XS.iload X0.here hx rfl (hb hby at_14) rfl k) ?_
  refine own_go (B := s₁.setTop (mkF m 18 #[.val (.long p1), .second, .val (.long p2), .second, .val (.int p3), .val (.int p4), .val (.int p5), .val (.int p6), .val (.long ta), .second, .val (.long tb), .second, .unset, .unset, .unset, .unset, .unset, .unset, .unset, .unset, .unset] [(.int (65535 : Int32)), (.int p3)])) (fun t k => X0.ldcInt hx hown (mvT hZ (hw _ (List.mem_of_getElem? (i := 1) rfl))) (g := (mkF m 16 #[.val (.long p1), .second, .val (.long p2), .second, .val (.int p3), .val (.int p4), .val (.int p5), .val (.int p6), .val (.long ta), .second, .val (.long tb), .second, .unset, .unset, .unset, .unset, .unset, .unset, .unset, .unset, .unset] [(.int p3)])) rfl (hb hby at_16) _ k) ?_
  refine own_go (B := s₁.setTop (mkF m 19 #[.val (.long p1), .second, .val (.long p2), .second, .val (.int p3), .val (.int p4), .val (.int p5), .val (.int p6), .val (.long ta), .second, .val (.long tb), .second, .unset, .unset, .unset, .unset, .unset, .unset, .unset, .unset, .unset] [(.int (p3 &&& (65535 : Int32)))])) (fun t k => XS.iand X0.here hx rfl (hb hby at_18) rfl k) ?_
  refine own_go (B := s₁.setTop (mkF m 21 #[.val (.long p1), .second, .val (.long p2), .second, .val (.int p3), .val (.int p4), .val (.int p5), .val (.int p6), .val (.long ta), .second, .val (.long tb), .second, .val (.int (p3 &&& (65535 : Int32))), .unset, .unset, .unset, .unset, .unset, .unset, .unset, .unset] [])) (fun t k => XS.istore X0.here hx rfl (hb hby at_19) rfl (l' := #[.val (.long p1), .second, .val (.long p2), .second, .val (.int p3), .val (.int p4), .val (.int p5), .val (.int p6), .val (.long ta), .second, .val (.long tb), .second, .val (.int (p3 &&& (65535 : Int32))), .unset, .unset, .unset, .unset, .unset, .unset, .unset, .unset]) rfl k) ?_
  obtain ⟨ya, hya⟩ : ∃ z, z = (p3 &&& (65535 : Int32)) := ⟨_, rfl⟩
  rw [← hya]
  have Rya := own_m16 p3; rw [← hya] at Rya
  refine own_go (B := s₁.setTop (mkF m 23 #[.val (.long p1), .second, .val (.long p2), .second, .val (.int p3), .val (.int p4), .val (.int p5), .val (.int p6), .val (.long ta), .second, .val (.long tb), .second, .val (.int ya), .unset, .unset, .unset, .unset, .unset, .unset, .unset, .unset] [(.int p3)])) (fun t k => XS.iload X0.here hx rfl (hb hby at_21) rfl k) ?_
  refine own_go (B := s₁.setTop (mkF m 25 #[.val (.long p1), .second, .val (.long p2), .second, .val (.int p3), .val (.int p4), .val (.int p5), .val (.int p6), .val (.long ta), .second, .val (.long tb), .second, .val (.int ya), .unset, .unset, .unset, .unset, .unset, .unset, .unset, .unset] [(.int (16 : Int32)), (.int p3)])) (fun t k => XS.bipush X0.here hx rfl (hb hby at_23) k) ?_
  refine own_go (B := s₁.setTop (mkF m 26 #[.val (.long p1), .second, .val (.long p2), .second, .val (.int p3), .val (.int p4), .val (.int p5), .val (.int p6), .val (.long ta), .second, .val (.long tb), .second, .val (.int ya), .unset, .unset, .unset, .unset, .unset, .unset, .unset, .unset] [(.int ((p3.toUInt32 >>> ((16 : Int32) &&& 31).toUInt32).toInt32))])) (fun t k => XS.iushr X0.here hx rfl (hb hby at_25) rfl k) ?_
  refine own_go (B := s₁.setTop (mkF m 28 #[.val (.long p1), .second, .val (.long p2), .second, .val (.int p3), .val (.int p4), .val (.int p5), .val (.int p6), .val (.long ta), .second, .val (.long tb), .second, .val (.int ya), .val (.int ((p3.toUInt32 >>> ((16 : Int32) &&& 31).toUInt32).toInt32)), .unset, .unset, .unset, .unset, .unset, .unset, .unset] [])) (fun t k => XS.istore X0.here hx rfl (hb hby at_26) rfl (l' := #[.val (.long p1), .second, .val (.long p2), .second, .val (.int p3), .val (.int p4), .val (.int p5), .val (.int p6), .val (.long ta), .second, .val (.long tb), .second, .val (.int ya), .val (.int ((p3.toUInt32 >>> ((16 : Int32) &&& 31).toUInt32).toInt32)), .unset, .unset, .unset, .unset, .unset, .unset, .unset]) rfl k) ?_
  obtain ⟨da, hda⟩ : ∃ z, z = ((p3.toUInt32 >>> ((16 : Int32) &&& 31).toUInt32).toInt32) := ⟨_, rfl⟩
  rw [← hda]
  have Rda := own_u16 p3; rw [← hda] at Rda
  refine own_go (B := s₁.setTop (mkF m 30 #[.val (.long p1), .second, .val (.long p2), .second, .val (.int p3), .val (.int p4), .val (.int p5), .val (.int p6), .val (.long ta), .second, .val (.long tb), .second, .val (.int ya), .val (.int da), .unset, .unset, .unset, .unset, .unset, .unset, .unset] [(.int p4)])) (fun t k => XS.iload X0.here hx rfl (hb hby at_28) rfl k) ?_
  refine own_go (B := s₁.setTop (mkF m 32 #[.val (.long p1), .second, .val (.long p2), .second, .val (.int p3), .val (.int p4), .val (.int p5), .val (.int p6), .val (.long ta), .second, .val (.long tb), .second, .val (.int ya), .val (.int da), .unset, .unset, .unset, .unset, .unset, .unset, .unset] [(.int (65535 : Int32)), (.int p4)])) (fun t k => X0.ldcInt hx hown (mvT hZ (hw _ (List.mem_of_getElem? (i := 1) rfl))) (g := (mkF m 30 #[.val (.long p1), .second, .val (.long p2), .second, .val (.int p3), .val (.int p4), .val (.int p5), .val (.int p6), .val (.long ta), .second, .val (.long tb), .second, .val (.int ya), .val (.int da), .unset, .unset, .unset, .unset, .unset, .unset, .unset] [(.int p4)])) rfl (hb hby at_30) _ k) ?_
  refine own_go (B := s₁.setTop (mkF m 33 #[.val (.long p1), .second, .val (.long p2), .second, .val (.int p3), .val (.int p4), .val (.int p5), .val (.int p6), .val (.long ta), .second, .val (.long tb), .second, .val (.int ya), .val (.int da), .unset, .unset, .unset, .unset, .unset, .unset, .unset] [(.int (p4 &&& (65535 : Int32)))])) (fun t k => XS.iand X0.here hx rfl (hb hby at_32) rfl k) ?_
  refine own_go (B := s₁.setTop (mkF m 35 #[.val (.long p1), .second, .val (.long p2), .second, .val (.int p3), .val (.int p4), .val (.int p5), .val (.int p6), .val (.long ta), .second, .val (.long tb), .second, .val (.int ya), .val (.int da), .val (.int (p4 &&& (65535 : Int32))), .unset, .unset, .unset, .unset, .unset, .unset] [])) (fun t k => XS.istore X0.here hx rfl (hb hby at_33) rfl (l' := #[.val (.long p1), .second, .val (.long p2), .second, .val (.int p3), .val (.int p4), .val (.int p5), .val (.int p6), .val (.long ta), .second, .val (.long tb), .second, .val (.int ya), .val (.int da), .val (.int (p4 &&& (65535 : Int32))), .unset, .unset, .unset, .unset, .unset, .unset]) rfl k) ?_
  obtain ⟨yb, hyb⟩ : ∃ z, z = (p4 &&& (65535 : Int32)) := ⟨_, rfl⟩
  rw [← hyb]
  have Ryb := own_m16 p4; rw [← hyb] at Ryb
  refine own_go (B := s₁.setTop (mkF m 37 #[.val (.long p1), .second, .val (.long p2), .second, .val (.int p3), .val (.int p4), .val (.int p5), .val (.int p6), .val (.long ta), .second, .val (.long tb), .second, .val (.int ya), .val (.int da), .val (.int yb), .unset, .unset, .unset, .unset, .unset, .unset] [(.int p4)])) (fun t k => XS.iload X0.here hx rfl (hb hby at_35) rfl k) ?_
  refine own_go (B := s₁.setTop (mkF m 39 #[.val (.long p1), .second, .val (.long p2), .second, .val (.int p3), .val (.int p4), .val (.int p5), .val (.int p6), .val (.long ta), .second, .val (.long tb), .second, .val (.int ya), .val (.int da), .val (.int yb), .unset, .unset, .unset, .unset, .unset, .unset] [(.int (16 : Int32)), (.int p4)])) (fun t k => XS.bipush X0.here hx rfl (hb hby at_37) k) ?_
  refine own_go (B := s₁.setTop (mkF m 40 #[.val (.long p1), .second, .val (.long p2), .second, .val (.int p3), .val (.int p4), .val (.int p5), .val (.int p6), .val (.long ta), .second, .val (.long tb), .second, .val (.int ya), .val (.int da), .val (.int yb), .unset, .unset, .unset, .unset, .unset, .unset] [(.int ((p4.toUInt32 >>> ((16 : Int32) &&& 31).toUInt32).toInt32))])) (fun t k => XS.iushr X0.here hx rfl (hb hby at_39) rfl k) ?_
  refine own_go (B := s₁.setTop (mkF m 42 #[.val (.long p1), .second, .val (.long p2), .second, .val (.int p3), .val (.int p4), .val (.int p5), .val (.int p6), .val (.long ta), .second, .val (.long tb), .second, .val (.int ya), .val (.int da), .val (.int yb), .val (.int ((p4.toUInt32 >>> ((16 : Int32) &&& 31).toUInt32).toInt32)), .unset, .unset, .unset, .unset, .unset] [])) (fun t k => XS.istore X0.here hx rfl (hb hby at_40) rfl (l' := #[.val (.long p1), .second, .val (.long p2), .second, .val (.int p3), .val (.int p4), .val (.int p5), .val (.int p6), .val (.long ta), .second, .val (.long tb), .second, .val (.int ya), .val (.int da), .val (.int yb), .val (.int ((p4.toUInt32 >>> ((16 : Int32) &&& 31).toUInt32).toInt32)), .unset, .unset, .unset, .unset, .unset]) rfl k) ?_
  obtain ⟨db, hdb⟩ : ∃ z, z = ((p4.toUInt32 >>> ((16 : Int32) &&& 31).toUInt32).toInt32) := ⟨_, rfl⟩
  rw [← hdb]
  have Rdb := own_u16 p4; rw [← hdb] at Rdb
  refine own_go (B := s₁.setTop (mkF m 43 #[.val (.long p1), .second, .val (.long p2), .second, .val (.int p3), .val (.int p4), .val (.int p5), .val (.int p6), .val (.long ta), .second, .val (.long tb), .second, .val (.int ya), .val (.int da), .val (.int yb), .val (.int db), .unset, .unset, .unset, .unset, .unset] [(.long p1)])) (fun t k => XS.lloadN X0.here hx rfl (hb hby at_42) rfl k) ?_
  refine own_go (B := s₁.setTop (mkF m 44 #[.val (.long p1), .second, .val (.long p2), .second, .val (.int p3), .val (.int p4), .val (.int p5), .val (.int p6), .val (.long ta), .second, .val (.long tb), .second, .val (.int ya), .val (.int da), .val (.int yb), .val (.int db), .unset, .unset, .unset, .unset, .unset] [(.long (0 : Int64)), (.long p1)])) (fun t k => XS.lconst X0.here hx rfl (hb hby at_43) k) ?_
  refine own_go (B := s₁.setTop (mkF m 45 #[.val (.long p1), .second, .val (.long p2), .second, .val (.int p3), .val (.int p4), .val (.int p5), .val (.int p6), .val (.long ta), .second, .val (.long tb), .second, .val (.int ya), .val (.int da), .val (.int yb), .val (.int db), .unset, .unset, .unset, .unset, .unset] [(.int (lcmpW p1 (0 : Int64)))])) (fun t k => XS.lcmp X0.here hx rfl (hb hby at_44) rfl k) ?_
  by_cases hc45_68 : p1 < (0 : Int64)
  · refine own_go (B := s₁.setTop (mkF m 48 #[.val (.long p1), .second, .val (.long p2), .second, .val (.int p3), .val (.int p4), .val (.int p5), .val (.int p6), .val (.long ta), .second, .val (.long tb), .second, .val (.int ya), .val (.int da), .val (.int yb), .val (.int db), .unset, .unset, .unset, .unset, .unset] [])) (fun t k => XS.ifNo X0.here hx rfl (hb hby at_45) rfl ((if0 _ _).trans (tlt ((lw_lt p1 (0 : Int64)).mpr hc45_68)).2.1) k) ?_
    refine own_go (B := s₁.setTop (mkF m 49 #[.val (.long p1), .second, .val (.long p2), .second, .val (.int p3), .val (.int p4), .val (.int p5), .val (.int p6), .val (.long ta), .second, .val (.long tb), .second, .val (.int ya), .val (.int da), .val (.int yb), .val (.int db), .unset, .unset, .unset, .unset, .unset] [(.int (1 : Int32))])) (fun t k => XS.iconst X0.here hx rfl (hb hby at_48) k) ?_
    refine own_go (B := s₁.setTop (mkF m 53 #[.val (.long p1), .second, .val (.long p2), .second, .val (.int p3), .val (.int p4), .val (.int p5), .val (.int p6), .val (.long ta), .second, .val (.long tb), .second, .val (.int ya), .val (.int da), .val (.int yb), .val (.int db), .unset, .unset, .unset, .unset, .unset] [(.int (1 : Int32))])) (fun t k => XS.goto X0.here hx rfl (pc0 := 49) (pc' := 53) rfl (hb hby at_49) (by decide) (by decide) k) ?_
    refine own_go (B := s₁.setTop (mkF m 55 #[.val (.long p1), .second, .val (.long p2), .second, .val (.int p3), .val (.int p4), .val (.int p5), .val (.int p6), .val (.long ta), .second, .val (.long tb), .second, .val (.int ya), .val (.int da), .val (.int yb), .val (.int db), .val (.int (1 : Int32)), .unset, .unset, .unset, .unset] [])) (fun t k => XS.istore X0.here hx rfl (hb hby at_53) rfl (l' := #[.val (.long p1), .second, .val (.long p2), .second, .val (.int p3), .val (.int p4), .val (.int p5), .val (.int p6), .val (.long ta), .second, .val (.long tb), .second, .val (.int ya), .val (.int da), .val (.int yb), .val (.int db), .val (.int (1 : Int32)), .unset, .unset, .unset, .unset]) rfl k) ?_
    refine own_go (B := s₁.setTop (mkF m 56 #[.val (.long p1), .second, .val (.long p2), .second, .val (.int p3), .val (.int p4), .val (.int p5), .val (.int p6), .val (.long ta), .second, .val (.long tb), .second, .val (.int ya), .val (.int da), .val (.int yb), .val (.int db), .val (.int (1 : Int32)), .unset, .unset, .unset, .unset] [(.long p2)])) (fun t k => XS.lloadN X0.here hx rfl (hb hby at_55) rfl k) ?_
    refine own_go (B := s₁.setTop (mkF m 57 #[.val (.long p1), .second, .val (.long p2), .second, .val (.int p3), .val (.int p4), .val (.int p5), .val (.int p6), .val (.long ta), .second, .val (.long tb), .second, .val (.int ya), .val (.int da), .val (.int yb), .val (.int db), .val (.int (1 : Int32)), .unset, .unset, .unset, .unset] [(.long (0 : Int64)), (.long p2)])) (fun t k => XS.lconst X0.here hx rfl (hb hby at_56) k) ?_
    refine own_go (B := s₁.setTop (mkF m 58 #[.val (.long p1), .second, .val (.long p2), .second, .val (.int p3), .val (.int p4), .val (.int p5), .val (.int p6), .val (.long ta), .second, .val (.long tb), .second, .val (.int ya), .val (.int da), .val (.int yb), .val (.int db), .val (.int (1 : Int32)), .unset, .unset, .unset, .unset] [(.int (lcmpW p2 (0 : Int64)))])) (fun t k => XS.lcmp X0.here hx rfl (hb hby at_57) rfl k) ?_
    by_cases hc58_69 : p2 < (0 : Int64)
    · refine own_go (B := s₁.setTop (mkF m 61 #[.val (.long p1), .second, .val (.long p2), .second, .val (.int p3), .val (.int p4), .val (.int p5), .val (.int p6), .val (.long ta), .second, .val (.long tb), .second, .val (.int ya), .val (.int da), .val (.int yb), .val (.int db), .val (.int (1 : Int32)), .unset, .unset, .unset, .unset] [])) (fun t k => XS.ifNo X0.here hx rfl (hb hby at_58) rfl ((if0 _ _).trans (tlt ((lw_lt p2 (0 : Int64)).mpr hc58_69)).2.1) k) ?_
      refine own_go (B := s₁.setTop (mkF m 62 #[.val (.long p1), .second, .val (.long p2), .second, .val (.int p3), .val (.int p4), .val (.int p5), .val (.int p6), .val (.long ta), .second, .val (.long tb), .second, .val (.int ya), .val (.int da), .val (.int yb), .val (.int db), .val (.int (1 : Int32)), .unset, .unset, .unset, .unset] [(.int (1 : Int32))])) (fun t k => XS.iconst X0.here hx rfl (hb hby at_61) k) ?_
      refine own_go (B := s₁.setTop (mkF m 66 #[.val (.long p1), .second, .val (.long p2), .second, .val (.int p3), .val (.int p4), .val (.int p5), .val (.int p6), .val (.long ta), .second, .val (.long tb), .second, .val (.int ya), .val (.int da), .val (.int yb), .val (.int db), .val (.int (1 : Int32)), .unset, .unset, .unset, .unset] [(.int (1 : Int32))])) (fun t k => XS.goto X0.here hx rfl (pc0 := 62) (pc' := 66) rfl (hb hby at_62) (by decide) (by decide) k) ?_
      refine own_go (B := s₁.setTop (mkF m 68 #[.val (.long p1), .second, .val (.long p2), .second, .val (.int p3), .val (.int p4), .val (.int p5), .val (.int p6), .val (.long ta), .second, .val (.long tb), .second, .val (.int ya), .val (.int da), .val (.int yb), .val (.int db), .val (.int (1 : Int32)), .val (.int (1 : Int32)), .unset, .unset, .unset] [])) (fun t k => XS.istore X0.here hx rfl (hb hby at_66) rfl (l' := #[.val (.long p1), .second, .val (.long p2), .second, .val (.int p3), .val (.int p4), .val (.int p5), .val (.int p6), .val (.long ta), .second, .val (.long tb), .second, .val (.int ya), .val (.int da), .val (.int yb), .val (.int db), .val (.int (1 : Int32)), .val (.int (1 : Int32)), .unset, .unset, .unset]) rfl k) ?_
      obtain ⟨T70, h70, X70, e70, E70, A70, D70, -, st70⟩ := newO X0 hx hZ hown (hw _ (List.mem_of_getElem? (i := 2) rfl)) (hw _ (List.mem_of_getElem? (i := 3) rfl)) (hw _ (List.mem_of_getElem? (i := 4) rfl)) e0 (g := (mkF m 68 #[.val (.long p1), .second, .val (.long p2), .second, .val (.int p3), .val (.int p4), .val (.int p5), .val (.int p6), .val (.long ta), .second, .val (.long tb), .second, .val (.int ya), .val (.int da), .val (.int yb), .val (.int db), .val (.int (1 : Int32)), .val (.int (1 : Int32)), .unset, .unset, .unset] [])) rfl (hb hby at_68) (by decide) (by decide)
      obtain ⟨b70, g70⟩ : ∃ z, z = h0.size := ⟨_, rfl⟩
      rw [← g70] at A70 D70 st70
      have g_b70 : n0 ≤ b70 := Nat.le_trans (own_n0 O0) (Nat.le_of_eq g70.symm)
      have O70 := O0.ext E70
      have F70_13 : Fld Z h70 b70 "com/example/helm_of_panes/helmofpanes/input/InputEvent" "timeMicros" "J" (.long (0 : Int64)) := D70 (Or.inr (hw _ (List.mem_of_getElem? (i := 13) rfl))) (ty := .long) (by decide)
      have F70_15 : Fld Z h70 b70 "com/example/helm_of_panes/helmofpanes/input/InputEvent" "type" "I" (.int (0 : Int32)) := D70 (Or.inr (hw _ (List.mem_of_getElem? (i := 15) rfl))) (ty := .int) (by decide)
      have F70_17 : Fld Z h70 b70 "com/example/helm_of_panes/helmofpanes/input/InputEvent" "code" "I" (.int (0 : Int32)) := D70 (Or.inr (hw _ (List.mem_of_getElem? (i := 17) rfl))) (ty := .int) (by decide)
      have F70_19 : Fld Z h70 b70 "com/example/helm_of_panes/helmofpanes/input/InputEvent" "value" "I" (.int (0 : Int32)) := D70 (Or.inr (hw _ (List.mem_of_getElem? (i := 19) rfl))) (ty := .int) (by decide)
      refine own_go (B := T70.setTop (mkF m 71 #[.val (.long p1), .second, .val (.long p2), .second, .val (.int p3), .val (.int p4), .val (.int p5), .val (.int p6), .val (.long ta), .second, .val (.long tb), .second, .val (.int ya), .val (.int da), .val (.int yb), .val (.int db), .val (.int (1 : Int32)), .val (.int (1 : Int32)), .unset, .unset, .unset] [(.ref b70)])) (fun t k => st70 _ k) ?_
      refine own_go (B := T70.setTop (mkF m 72 #[.val (.long p1), .second, .val (.long p2), .second, .val (.int p3), .val (.int p4), .val (.int p5), .val (.int p6), .val (.long ta), .second, .val (.long tb), .second, .val (.int ya), .val (.int da), .val (.int yb), .val (.int db), .val (.int (1 : Int32)), .val (.int (1 : Int32)), .unset, .unset, .unset] [(.ref b70), (.ref b70)])) (fun t k => XS.dup X70.here hx rfl (hb hby at_71) rfl rfl k) ?_
      refine own_go (B := T70.setTop (mkF m 74 #[.val (.long p1), .second, .val (.long p2), .second, .val (.int p3), .val (.int p4), .val (.int p5), .val (.int p6), .val (.long ta), .second, .val (.long tb), .second, .val (.int ya), .val (.int da), .val (.int yb), .val (.int db), .val (.int (1 : Int32)), .val (.int (1 : Int32)), .unset, .unset, .unset] [(.long ta), (.ref b70), (.ref b70)])) (fun t k => XS.lload X70.here hx rfl (hb hby at_72) rfl k) ?_
      refine own_go (B := T70.setTop (mkF m 76 #[.val (.long p1), .second, .val (.long p2), .second, .val (.int p3), .val (.int p4), .val (.int p5), .val (.int p6), .val (.long ta), .second, .val (.long tb), .second, .val (.int ya), .val (.int da), .val (.int yb), .val (.int db), .val (.int (1 : Int32)), .val (.int (1 : Int32)), .unset, .unset, .unset] [(.int ya), (.long ta), (.ref b70), (.ref b70)])) (fun t k => XS.iload X70.here hx rfl (hb hby at_74) rfl k) ?_
      refine own_go (B := T70.setTop (mkF m 78 #[.val (.long p1), .second, .val (.long p2), .second, .val (.int p3), .val (.int p4), .val (.int p5), .val (.int p6), .val (.long ta), .second, .val (.long tb), .second, .val (.int ya), .val (.int da), .val (.int yb), .val (.int db), .val (.int (1 : Int32)), .val (.int (1 : Int32)), .unset, .unset, .unset] [(.int da), (.int ya), (.long ta), (.ref b70), (.ref b70)])) (fun t k => XS.iload X70.here hx rfl (hb hby at_76) rfl k) ?_
      refine own_go (B := T70.setTop (mkF m 80 #[.val (.long p1), .second, .val (.long p2), .second, .val (.int p3), .val (.int p4), .val (.int p5), .val (.int p6), .val (.long ta), .second, .val (.long tb), .second, .val (.int ya), .val (.int da), .val (.int yb), .val (.int db), .val (.int (1 : Int32)), .val (.int (1 : Int32)), .unset, .unset, .unset] [(.int p5), (.int da), (.int ya), (.long ta), (.ref b70), (.ref b70)])) (fun t k => XS.iload X70.here hx rfl (hb hby at_78) rfl k) ?_
      obtain ⟨_, _, ⟨T71, L71, k71, n71⟩, -, X71, ⟨Lc71, hQ71, l71, y71, z71⟩, st71⟩ := X70.specialBack hx (y := (⟨"com/example/helm_of_panes/helmofpanes/input/InputEvent", "<init>", "(JIII)V"⟩ : MethodName)) rfl hown (mvT hZ (hw _ (List.mem_of_getElem? (i := 5) rfl))) (mvT hZ (hw _ (List.mem_of_getElem? (i := 6) rfl))) (mvT hZ (hw _ (List.mem_of_getElem? (i := 7) rfl))) (by decide) (backOf (W := 1) (own_rm_iinit l Z a0 hw [] b70 ta ya da p5 h70 n0 O70 A70 g_b70 F70_13 F70_15 F70_17 F70_19 Rta.1 Rya.1 Rya.2 Rda.1 Rda.2) hZ (hw _ (List.mem_of_getElem? (i := 7) rfl)) (hw _ (List.mem_of_getElem? (i := 4) rfl)) (by decide) (by decide)) (g := (mkF m 80 #[.val (.long p1), .second, .val (.long p2), .second, .val (.int p3), .val (.int p4), .val (.int p5), .val (.int p6), .val (.long ta), .second, .val (.long tb), .second, .val (.int ya), .val (.int da), .val (.int yb), .val (.int db), .val (.int (1 : Int32)), .val (.int (1 : Int32)), .unset, .unset, .unset] [(.int p5), (.int da), (.int ya), (.long ta), (.ref b70), (.ref b70)])) rfl (by rw [hml]; rfl) (Steps.refl _) (a := b70) (argsL := [(.long ta), (.int ya), (.int da), (.int p5)]) (rest := [(.ref b70)]) (lenOf own_pd_2 rfl) rfl (by show 2 * 0 + _ ≤ _; exact Nat.le_of_eq rfl) (hb hby at_80) (fun _ _ => ⟨rfl, e70, (by decide : 1 + 0 ≤ _), (by decide : 4 + 0 ≤ _)⟩)
      dsimp only [Pt.U, Pt.locs, Pt.cells, Pt.slots] at X71 l71 y71 z71 st71 hQ71
      subst l71 y71 z71
      obtain ⟨rfl, N71q, Kc71, En71, Fn71_0, Fn71_1, Fn71_2, Fn71_3⟩ := hQ71
      have O71 := O70.keep Kc71 (allS g_b70 all0)
      have N71 := Fr.app N0 N71q
      refine own_go (B := T71.setTop (mkF m 83 #[.val (.long p1), .second, .val (.long p2), .second, .val (.int p3), .val (.int p4), .val (.int p5), .val (.int p6), .val (.long ta), .second, .val (.long tb), .second, .val (.int ya), .val (.int da), .val (.int yb), .val (.int db), .val (.int (1 : Int32)), .val (.int (1 : Int32)), .unset, .unset, .unset] [(.ref b70)])) (fun t k => st71.trans k) ?_
      refine own_go (B := T71.setTop (mkF m 85 #[.val (.long p1), .second, .val (.long p2), .second, .val (.int p3), .val (.int p4), .val (.int p5), .val (.int p6), .val (.long ta), .second, .val (.long tb), .second, .val (.int ya), .val (.int da), .val (.int yb), .val (.int db), .val (.int (1 : Int32)), .val (.int (1 : Int32)), .val (.ref b70), .unset, .unset] [])) (fun t k => XS.astore X71.here hx rfl (hb hby at_83) rfl rfl (l' := #[.val (.long p1), .second, .val (.long p2), .second, .val (.int p3), .val (.int p4), .val (.int p5), .val (.int p6), .val (.long ta), .second, .val (.long tb), .second, .val (.int ya), .val (.int da), .val (.int yb), .val (.int db), .val (.int (1 : Int32)), .val (.int (1 : Int32)), .val (.ref b70), .unset, .unset]) rfl k) ?_
      refine own_go (B := T71.setTop (mkF m 87 #[.val (.long p1), .second, .val (.long p2), .second, .val (.int p3), .val (.int p4), .val (.int p5), .val (.int p6), .val (.long ta), .second, .val (.long tb), .second, .val (.int ya), .val (.int da), .val (.int yb), .val (.int db), .val (.int (1 : Int32)), .val (.int (1 : Int32)), .val (.ref b70), .unset, .unset] [(.int (1 : Int32))])) (fun t k => XS.iload X71.here hx rfl (hb hby at_85) rfl k) ?_
      refine own_go (B := T71.setTop (mkF m 90 #[.val (.long p1), .second, .val (.long p2), .second, .val (.int p3), .val (.int p4), .val (.int p5), .val (.int p6), .val (.long ta), .second, .val (.long tb), .second, .val (.int ya), .val (.int da), .val (.int yb), .val (.int db), .val (.int (1 : Int32)), .val (.int (1 : Int32)), .val (.ref b70), .unset, .unset] [])) (fun t k => XS.ifNo X71.here hx rfl (hb hby at_87) rfl ((if0 _ _).trans (feq (by decide : ¬ ((1 : Int32) = (0 : Int32)))).1) k) ?_
      refine own_go (B := T71.setTop (mkF m 91 #[.val (.long p1), .second, .val (.long p2), .second, .val (.int p3), .val (.int p4), .val (.int p5), .val (.int p6), .val (.long ta), .second, .val (.long tb), .second, .val (.int ya), .val (.int da), .val (.int yb), .val (.int db), .val (.int (1 : Int32)), .val (.int (1 : Int32)), .val (.ref b70), .unset, .unset] [.null])) (fun t k => XS.aconstNull X71.here hx rfl (hb hby at_90) k) ?_
      refine own_go (B := T71.setTop (mkF m 93 #[.val (.long p1), .second, .val (.long p2), .second, .val (.int p3), .val (.int p4), .val (.int p5), .val (.int p6), .val (.long ta), .second, .val (.long tb), .second, .val (.int ya), .val (.int da), .val (.int yb), .val (.int db), .val (.int (1 : Int32)), .val (.int (1 : Int32)), .val (.ref b70), .val .null, .unset] [])) (fun t k => XS.astore X71.here hx rfl (hb hby at_91) rfl rfl (l' := #[.val (.long p1), .second, .val (.long p2), .second, .val (.int p3), .val (.int p4), .val (.int p5), .val (.int p6), .val (.long ta), .second, .val (.long tb), .second, .val (.int ya), .val (.int da), .val (.int yb), .val (.int db), .val (.int (1 : Int32)), .val (.int (1 : Int32)), .val (.ref b70), .val .null, .unset]) rfl k) ?_
      refine own_go (B := T71.setTop (mkF m 95 #[.val (.long p1), .second, .val (.long p2), .second, .val (.int p3), .val (.int p4), .val (.int p5), .val (.int p6), .val (.long ta), .second, .val (.long tb), .second, .val (.int ya), .val (.int da), .val (.int yb), .val (.int db), .val (.int (1 : Int32)), .val (.int (1 : Int32)), .val (.ref b70), .val .null, .unset] [(.int p6)])) (fun t k => XS.iload X71.here hx rfl (hb hby at_93) rfl k) ?_
      refine own_go (B := T71.setTop (mkF m 96 #[.val (.long p1), .second, .val (.long p2), .second, .val (.int p3), .val (.int p4), .val (.int p5), .val (.int p6), .val (.long ta), .second, .val (.long tb), .second, .val (.int ya), .val (.int da), .val (.int yb), .val (.int db), .val (.int (1 : Int32)), .val (.int (1 : Int32)), .val (.ref b70), .val .null, .unset] [(.int (1 : Int32)), (.int p6)])) (fun t k => XS.iconst X71.here hx rfl (hb hby at_95) k) ?_
      refine own_go (B := T71.setTop (mkF m 97 #[.val (.long p1), .second, .val (.long p2), .second, .val (.int p3), .val (.int p4), .val (.int p5), .val (.int p6), .val (.long ta), .second, .val (.long tb), .second, .val (.int ya), .val (.int da), .val (.int yb), .val (.int db), .val (.int (1 : Int32)), .val (.int (1 : Int32)), .val (.ref b70), .val .null, .unset] [(.int (p6 &&& (1 : Int32)))])) (fun t k => XS.iand X71.here hx rfl (hb hby at_96) rfl k) ?_
      by_cases hc97_73 : (p6 &&& (1 : Int32)) = (0 : Int32)
      · refine own_go (B := T71.setTop (mkF m 107 #[.val (.long p1), .second, .val (.long p2), .second, .val (.int p3), .val (.int p4), .val (.int p5), .val (.int p6), .val (.long ta), .second, .val (.long tb), .second, .val (.int ya), .val (.int da), .val (.int yb), .val (.int db), .val (.int (1 : Int32)), .val (.int (1 : Int32)), .val (.ref b70), .val .null, .unset] [])) (fun t k => XS.ifYes X71.here hx rfl (pc0 := 97) (pc' := 107) rfl (hb hby at_97) rfl ((if0 _ _).trans (teq hc97_73).1) (by decide) (by decide) k) ?_
        refine own_go (B := T71.setTop (mkF m 109 #[.val (.long p1), .second, .val (.long p2), .second, .val (.int p3), .val (.int p4), .val (.int p5), .val (.int p6), .val (.long ta), .second, .val (.long tb), .second, .val (.int ya), .val (.int da), .val (.int yb), .val (.int db), .val (.int (1 : Int32)), .val (.int (1 : Int32)), .val (.ref b70), .val .null, .unset] [(.ref b70)])) (fun t k => XS.aload X71.here hx rfl (hb hby at_107) rfl rfl k) ?_
        refine own_go (B := T71.setTop (mkF m 111 #[.val (.long p1), .second, .val (.long p2), .second, .val (.int p3), .val (.int p4), .val (.int p5), .val (.int p6), .val (.long ta), .second, .val (.long tb), .second, .val (.int ya), .val (.int da), .val (.int yb), .val (.int db), .val (.int (1 : Int32)), .val (.int (1 : Int32)), .val (.ref b70), .val .null, .unset] [.null, (.ref b70)])) (fun t k => XS.aload X71.here hx rfl (hb hby at_109) rfl rfl k) ?_
        have f75 := (A70.keep Kc71)
        obtain ⟨cq74, kq74, q74a, q74b, q74c⟩ := isOf hZ (rfl : T71.heap = T71.heap) f75
        obtain ⟨_, _, ⟨T74, L74, k74, n74⟩, -, X74, ⟨Lc74, hQ74, l74, y74, z74⟩, st74⟩ := X71.virtualBack hx (y := (⟨"com/example/helm_of_panes/helmofpanes/input/InputEvent", "equals", "(Ljava/lang/Object;)Z"⟩ : MethodName)) (z := (⟨"com/example/helm_of_panes/helmofpanes/input/InputEvent", "equals", "(Ljava/lang/Object;)Z"⟩ : MethodName)) hown (mvT hZ (hw _ (List.mem_of_getElem? (i := 20) rfl))) (mvT hZ (hw _ (List.mem_of_getElem? (i := 21) rfl))) (notFace_of_selects (args := #[]) (mvT hZ (hw _ (List.mem_of_getElem? (i := 23) rfl)))) (mvT hZ (hw _ (List.mem_of_getElem? (i := 23) rfl))) (mvT hZ (hw _ (List.mem_of_getElem? (i := 22) rfl))) (by decide) (backOf (W := 0) (own_rm_eqN l Z a0 hw [] b70 T71.heap n0 O71) hZ (hw _ (List.mem_of_getElem? (i := 24) rfl)) (hw _ (List.mem_of_getElem? (i := 4) rfl)) (by decide) (by decide)) q74a q74c (g := (mkF m 111 #[.val (.long p1), .second, .val (.long p2), .second, .val (.int p3), .val (.int p4), .val (.int p5), .val (.int p6), .val (.long ta), .second, .val (.long tb), .second, .val (.int ya), .val (.int da), .val (.int yb), .val (.int db), .val (.int (1 : Int32)), .val (.int (1 : Int32)), .val (.ref b70), .val .null, .unset] [.null, (.ref b70)])) rfl (by rw [hml]; rfl) (Steps.refl _) (argsL := [.null]) (rest := []) (lenOf own_pd_3 rfl) rfl (by show 2 * 0 + _ ≤ _; exact Nat.le_of_eq rfl) (hb hby at_111) (fun _ _ => ⟨rfl, (rfl : T71.heap = T71.heap), (by decide : 1 + 0 ≤ _), (by decide : 4 + 0 ≤ _)⟩)
        dsimp only [Pt.U, Pt.locs, Pt.cells, Pt.slots] at X74 l74 y74 z74 st74 hQ74
        subst l74 y74 z74
        obtain ⟨rfl, N74q, eh74⟩ := hQ74
        have N74 := Fr.app N71 N74q
        refine own_go (B := T74.setTop (mkF m 114 #[.val (.long p1), .second, .val (.long p2), .second, .val (.int p3), .val (.int p4), .val (.int p5), .val (.int p6), .val (.long ta), .second, .val (.long tb), .second, .val (.int ya), .val (.int da), .val (.int yb), .val (.int db), .val (.int (1 : Int32)), .val (.int (1 : Int32)), .val (.ref b70), .val .null, .unset] [(.int (0 : Int32))])) (fun t k => st74.trans k) ?_
        refine own_go (B := T74.setTop (mkF m 117 #[.val (.long p1), .second, .val (.long p2), .second, .val (.int p3), .val (.int p4), .val (.int p5), .val (.int p6), .val (.long ta), .second, .val (.long tb), .second, .val (.int ya), .val (.int da), .val (.int yb), .val (.int db), .val (.int (1 : Int32)), .val (.int (1 : Int32)), .val (.ref b70), .val .null, .unset] [])) (fun t k => XS.ifNo X74.here hx rfl (hb hby at_114) rfl ((if0 _ _).trans (teq (by decide : (0 : Int32) = (0 : Int32))).2) k) ?_
        refine own_go (B := T74.setTop (mkF m 118 #[.val (.long p1), .second, .val (.long p2), .second, .val (.int p3), .val (.int p4), .val (.int p5), .val (.int p6), .val (.long ta), .second, .val (.long tb), .second, .val (.int ya), .val (.int da), .val (.int yb), .val (.int db), .val (.int (1 : Int32)), .val (.int (1 : Int32)), .val (.ref b70), .val .null, .unset] [(.int (1 : Int32))])) (fun t k => XS.iconst X74.here hx rfl (hb hby at_117) k) ?_
        refine own_go (B := T74.setTop (mkF m 122 #[.val (.long p1), .second, .val (.long p2), .second, .val (.int p3), .val (.int p4), .val (.int p5), .val (.int p6), .val (.long ta), .second, .val (.long tb), .second, .val (.int ya), .val (.int da), .val (.int yb), .val (.int db), .val (.int (1 : Int32)), .val (.int (1 : Int32)), .val (.ref b70), .val .null, .unset] [(.int (1 : Int32))])) (fun t k => XS.goto X74.here hx rfl (pc0 := 118) (pc' := 122) rfl (hb hby at_118) (by decide) (by decide) k) ?_
        obtain ⟨fs, hr, hrun, hended, hW, hsame⟩ := X74.leave (v := some (.int (1 : Int32))) (fun h => by rw [Bd.returns] at h; cases h)
        refine ⟨_, _, retN X74 hx (t := .boolean) Bd.returns (by simp) (hb hby at_122) hr, hK _ _ ⟨hrun, hended, _, _, rfl, ?_, ⟨_, rfl⟩, hW, hsame.mono (by decide) (by decide)⟩⟩
        show own_Q_law Z p1 p2 p3 p4 p5 p6 w_cache cl h0 n0 _ T74.heap _
        rw [eh74]
        exact ⟨rfl, N74⟩
      · refine own_go (B := T71.setTop (mkF m 100 #[.val (.long p1), .second, .val (.long p2), .second, .val (.int p3), .val (.int p4), .val (.int p5), .val (.int p6), .val (.long ta), .second, .val (.long tb), .second, .val (.int ya), .val (.int da), .val (.int yb), .val (.int db), .val (.int (1 : Int32)), .val (.int (1 : Int32)), .val (.ref b70), .val .null, .unset] [])) (fun t k => XS.ifNo X71.here hx rfl (hb hby at_97) rfl ((if0 _ _).trans (feq hc97_73).1) k) ?_
        refine own_go (B := T71.setTop (mkF m 102 #[.val (.long p1), .second, .val (.long p2), .second, .val (.int p3), .val (.int p4), .val (.int p5), .val (.int p6), .val (.long ta), .second, .val (.long tb), .second, .val (.int ya), .val (.int da), .val (.int yb), .val (.int db), .val (.int (1 : Int32)), .val (.int (1 : Int32)), .val (.ref b70), .val .null, .unset] [(.int p6)])) (fun t k => XS.iload X71.here hx rfl (hb hby at_100) rfl k) ?_
        obtain ⟨_, _, ⟨T78, L78, k78, n78⟩, -, X78, ⟨Lc78, hQ78, l78, y78, z78⟩, st78⟩ := Jvm.LawKit.callS X71 hx (y := (⟨"java/lang/Integer", "valueOf", "(I)Ljava/lang/Integer;"⟩ : MethodName)) hown (mvT hZ (hw _ (List.mem_of_getElem? (i := 27) rfl))) (mvT hZ (hw _ (List.mem_of_getElem? (i := 28) rfl))) (mvT hZ (hw _ (List.mem_of_getElem? (i := 29) rfl))) (mvT hZ (hw _ (List.mem_of_getElem? (i := 30) rfl))) (by decide) (backOf (W := 0) (own_rm_valueOf l Z a0 hw [] p6 w_cache cl T71.heap n0 O71 Hc) hZ (hw _ (List.mem_of_getElem? (i := 30) rfl)) (hw _ (List.mem_of_getElem? (i := 29) rfl)) (by decide) (by decide)) (g := (mkF m 102 #[.val (.long p1), .second, .val (.long p2), .second, .val (.int p3), .val (.int p4), .val (.int p5), .val (.int p6), .val (.long ta), .second, .val (.long tb), .second, .val (.int ya), .val (.int da), .val (.int yb), .val (.int db), .val (.int (1 : Int32)), .val (.int (1 : Int32)), .val (.ref b70), .val .null, .unset] [(.int p6)])) rfl (by rw [hml]; rfl) (argsL := [(.int p6)]) (rest := []) (lenOf own_pd_4 rfl) rfl (by show 2 * 0 + _ ≤ _; exact Nat.le_of_eq rfl) (hb hby at_102) (fun _ _ => ⟨rfl, (rfl : T71.heap = T71.heap), (by decide : 1 + 1 ≤ _), (by decide : 4 + 1 ≤ _)⟩)
        dsimp only [Pt.U, Pt.locs, Pt.cells, Pt.slots] at X78 l78 y78 z78 st78 hQ78
        subst l78 y78 z78
        obtain ⟨r78, rfl, N78q, Kc78, Ei78⟩ := hQ78
        have E78 := Kc78
        have O78 := O71.ext E78
        have N78 := Fr.app N71 N78q
        refine own_go (B := T78.setTop (mkF m 105 #[.val (.long p1), .second, .val (.long p2), .second, .val (.int p3), .val (.int p4), .val (.int p5), .val (.int p6), .val (.long ta), .second, .val (.long tb), .second, .val (.int ya), .val (.int da), .val (.int yb), .val (.int db), .val (.int (1 : Int32)), .val (.int (1 : Int32)), .val (.ref b70), .val .null, .unset] [(.ref r78)])) (fun t k => st78 _ k) ?_
        refine own_go (B := T78.setTop (mkF m 107 #[.val (.long p1), .second, .val (.long p2), .second, .val (.int p3), .val (.int p4), .val (.int p5), .val (.int p6), .val (.long ta), .second, .val (.long tb), .second, .val (.int ya), .val (.int da), .val (.int yb), .val (.int db), .val (.int (1 : Int32)), .val (.int (1 : Int32)), .val (.ref b70), .val (.ref r78), .unset] [])) (fun t k => XS.astore X78.here hx rfl (hb hby at_105) rfl rfl (l' := #[.val (.long p1), .second, .val (.long p2), .second, .val (.int p3), .val (.int p4), .val (.int p5), .val (.int p6), .val (.long ta), .second, .val (.long tb), .second, .val (.int ya), .val (.int da), .val (.int yb), .val (.int db), .val (.int (1 : Int32)), .val (.int (1 : Int32)), .val (.ref b70), .val (.ref r78), .unset]) rfl k) ?_
        refine own_go (B := T78.setTop (mkF m 109 #[.val (.long p1), .second, .val (.long p2), .second, .val (.int p3), .val (.int p4), .val (.int p5), .val (.int p6), .val (.long ta), .second, .val (.long tb), .second, .val (.int ya), .val (.int da), .val (.int yb), .val (.int db), .val (.int (1 : Int32)), .val (.int (1 : Int32)), .val (.ref b70), .val (.ref r78), .unset] [(.ref b70)])) (fun t k => XS.aload X78.here hx rfl (hb hby at_107) rfl rfl k) ?_
        refine own_go (B := T78.setTop (mkF m 111 #[.val (.long p1), .second, .val (.long p2), .second, .val (.int p3), .val (.int p4), .val (.int p5), .val (.int p6), .val (.long ta), .second, .val (.long tb), .second, .val (.int ya), .val (.int da), .val (.int yb), .val (.int db), .val (.int (1 : Int32)), .val (.int (1 : Int32)), .val (.ref b70), .val (.ref r78), .unset] [(.ref r78), (.ref b70)])) (fun t k => XS.aload X78.here hx rfl (hb hby at_109) rfl rfl k) ?_
        have f79 := ((A70.keep Kc71).ext E78)
        obtain ⟨cq80, kq80, q80a, q80b, q80c⟩ := isOf hZ (rfl : T78.heap = T78.heap) f79
        obtain ⟨_, _, ⟨T80, L80, k80, n80⟩, -, X80, ⟨Lc80, hQ80, l80, y80, z80⟩, st80⟩ := X78.virtualBack hx (y := (⟨"com/example/helm_of_panes/helmofpanes/input/InputEvent", "equals", "(Ljava/lang/Object;)Z"⟩ : MethodName)) (z := (⟨"com/example/helm_of_panes/helmofpanes/input/InputEvent", "equals", "(Ljava/lang/Object;)Z"⟩ : MethodName)) hown (mvT hZ (hw _ (List.mem_of_getElem? (i := 20) rfl))) (mvT hZ (hw _ (List.mem_of_getElem? (i := 21) rfl))) (notFace_of_selects (args := #[]) (mvT hZ (hw _ (List.mem_of_getElem? (i := 23) rfl)))) (mvT hZ (hw _ (List.mem_of_getElem? (i := 23) rfl))) (mvT hZ (hw _ (List.mem_of_getElem? (i := 22) rfl))) (by decide) (backOf (W := 0) (own_rm_eqI l Z a0 hw [] b70 r78 T78.heap n0 O78 (ne_exa f79 Ei78 (by decide)) Ei78 (own_noInt Ei78 (hw _ (List.mem_of_getElem? (i := 46) rfl)) (hw _ (List.mem_of_getElem? (i := 47) rfl)) (hw _ (List.mem_of_getElem? (i := 48) rfl)) (hw _ (List.mem_of_getElem? (i := 3) rfl)) (by decide) (by decide) (by decide))) hZ (hw _ (List.mem_of_getElem? (i := 24) rfl)) (hw _ (List.mem_of_getElem? (i := 4) rfl)) (by decide) (by decide)) q80a q80c (g := (mkF m 111 #[.val (.long p1), .second, .val (.long p2), .second, .val (.int p3), .val (.int p4), .val (.int p5), .val (.int p6), .val (.long ta), .second, .val (.long tb), .second, .val (.int ya), .val (.int da), .val (.int yb), .val (.int db), .val (.int (1 : Int32)), .val (.int (1 : Int32)), .val (.ref b70), .val (.ref r78), .unset] [(.ref r78), (.ref b70)])) rfl (by rw [hml]; rfl) (Steps.refl _) (argsL := [(.ref r78)]) (rest := []) (lenOf own_pd_3 rfl) rfl (by show 2 * 0 + _ ≤ _; exact Nat.le_of_eq rfl) (hb hby at_111) (fun _ _ => ⟨rfl, (rfl : T78.heap = T78.heap), (by decide : 2 + 0 ≤ _), (by decide : 5 + 0 ≤ _)⟩)
        dsimp only [Pt.U, Pt.locs, Pt.cells, Pt.slots] at X80 l80 y80 z80 st80 hQ80
        subst l80 y80 z80
        obtain ⟨rfl, N80q, eh80⟩ := hQ80
        have N80 := Fr.app N78 N80q
        refine own_go (B := T80.setTop (mkF m 114 #[.val (.long p1), .second, .val (.long p2), .second, .val (.int p3), .val (.int p4), .val (.int p5), .val (.int p6), .val (.long ta), .second, .val (.long tb), .second, .val (.int ya), .val (.int da), .val (.int yb), .val (.int db), .val (.int (1 : Int32)), .val (.int (1 : Int32)), .val (.ref b70), .val (.ref r78), .unset] [(.int (0 : Int32))])) (fun t k => st80.trans k) ?_
        refine own_go (B := T80.setTop (mkF m 117 #[.val (.long p1), .second, .val (.long p2), .second, .val (.int p3), .val (.int p4), .val (.int p5), .val (.int p6), .val (.long ta), .second, .val (.long tb), .second, .val (.int ya), .val (.int da), .val (.int yb), .val (.int db), .val (.int (1 : Int32)), .val (.int (1 : Int32)), .val (.ref b70), .val (.ref r78), .unset] [])) (fun t k => XS.ifNo X80.here hx rfl (hb hby at_114) rfl ((if0 _ _).trans (teq (by decide : (0 : Int32) = (0 : Int32))).2) k) ?_
        refine own_go (B := T80.setTop (mkF m 118 #[.val (.long p1), .second, .val (.long p2), .second, .val (.int p3), .val (.int p4), .val (.int p5), .val (.int p6), .val (.long ta), .second, .val (.long tb), .second, .val (.int ya), .val (.int da), .val (.int yb), .val (.int db), .val (.int (1 : Int32)), .val (.int (1 : Int32)), .val (.ref b70), .val (.ref r78), .unset] [(.int (1 : Int32))])) (fun t k => XS.iconst X80.here hx rfl (hb hby at_117) k) ?_
        refine own_go (B := T80.setTop (mkF m 122 #[.val (.long p1), .second, .val (.long p2), .second, .val (.int p3), .val (.int p4), .val (.int p5), .val (.int p6), .val (.long ta), .second, .val (.long tb), .second, .val (.int ya), .val (.int da), .val (.int yb), .val (.int db), .val (.int (1 : Int32)), .val (.int (1 : Int32)), .val (.ref b70), .val (.ref r78), .unset] [(.int (1 : Int32))])) (fun t k => XS.goto X80.here hx rfl (pc0 := 118) (pc' := 122) rfl (hb hby at_118) (by decide) (by decide) k) ?_
        obtain ⟨fs, hr, hrun, hended, hW, hsame⟩ := X80.leave (v := some (.int (1 : Int32))) (fun h => by rw [Bd.returns] at h; cases h)
        refine ⟨_, _, retN X80 hx (t := .boolean) Bd.returns (by simp) (hb hby at_122) hr, hK _ _ ⟨hrun, hended, _, _, rfl, ?_, ⟨_, rfl⟩, hW, hsame.mono (by decide) (by decide)⟩⟩
        show own_Q_law Z p1 p2 p3 p4 p5 p6 w_cache cl h0 n0 _ T80.heap _
        rw [eh80]
        exact ⟨rfl, N80⟩
    · refine own_go (B := s₁.setTop (mkF m 65 #[.val (.long p1), .second, .val (.long p2), .second, .val (.int p3), .val (.int p4), .val (.int p5), .val (.int p6), .val (.long ta), .second, .val (.long tb), .second, .val (.int ya), .val (.int da), .val (.int yb), .val (.int db), .val (.int (1 : Int32)), .unset, .unset, .unset, .unset] [])) (fun t k => XS.ifYes X0.here hx rfl (pc0 := 58) (pc' := 65) rfl (hb hby at_58) rfl ((if0 _ _).trans (flt (fun q => hc58_69 ((lw_lt p2 (0 : Int64)).mp q))).2.1) (by decide) (by decide) k) ?_
      refine own_go (B := s₁.setTop (mkF m 66 #[.val (.long p1), .second, .val (.long p2), .second, .val (.int p3), .val (.int p4), .val (.int p5), .val (.int p6), .val (.long ta), .second, .val (.long tb), .second, .val (.int ya), .val (.int da), .val (.int yb), .val (.int db), .val (.int (1 : Int32)), .unset, .unset, .unset, .unset] [(.int (0 : Int32))])) (fun t k => XS.iconst X0.here hx rfl (hb hby at_65) k) ?_
      refine own_go (B := s₁.setTop (mkF m 68 #[.val (.long p1), .second, .val (.long p2), .second, .val (.int p3), .val (.int p4), .val (.int p5), .val (.int p6), .val (.long ta), .second, .val (.long tb), .second, .val (.int ya), .val (.int da), .val (.int yb), .val (.int db), .val (.int (1 : Int32)), .val (.int (0 : Int32)), .unset, .unset, .unset] [])) (fun t k => XS.istore X0.here hx rfl (hb hby at_66) rfl (l' := #[.val (.long p1), .second, .val (.long p2), .second, .val (.int p3), .val (.int p4), .val (.int p5), .val (.int p6), .val (.long ta), .second, .val (.long tb), .second, .val (.int ya), .val (.int da), .val (.int yb), .val (.int db), .val (.int (1 : Int32)), .val (.int (0 : Int32)), .unset, .unset, .unset]) rfl k) ?_
      obtain ⟨T83, h83, X83, e83, E83, A83, D83, -, st83⟩ := newO X0 hx hZ hown (hw _ (List.mem_of_getElem? (i := 2) rfl)) (hw _ (List.mem_of_getElem? (i := 3) rfl)) (hw _ (List.mem_of_getElem? (i := 4) rfl)) e0 (g := (mkF m 68 #[.val (.long p1), .second, .val (.long p2), .second, .val (.int p3), .val (.int p4), .val (.int p5), .val (.int p6), .val (.long ta), .second, .val (.long tb), .second, .val (.int ya), .val (.int da), .val (.int yb), .val (.int db), .val (.int (1 : Int32)), .val (.int (0 : Int32)), .unset, .unset, .unset] [])) rfl (hb hby at_68) (by decide) (by decide)
      obtain ⟨b83, g83⟩ : ∃ z, z = h0.size := ⟨_, rfl⟩
      rw [← g83] at A83 D83 st83
      have g_b83 : n0 ≤ b83 := Nat.le_trans (own_n0 O0) (Nat.le_of_eq g83.symm)
      have O83 := O0.ext E83
      have F83_13 : Fld Z h83 b83 "com/example/helm_of_panes/helmofpanes/input/InputEvent" "timeMicros" "J" (.long (0 : Int64)) := D83 (Or.inr (hw _ (List.mem_of_getElem? (i := 13) rfl))) (ty := .long) (by decide)
      have F83_15 : Fld Z h83 b83 "com/example/helm_of_panes/helmofpanes/input/InputEvent" "type" "I" (.int (0 : Int32)) := D83 (Or.inr (hw _ (List.mem_of_getElem? (i := 15) rfl))) (ty := .int) (by decide)
      have F83_17 : Fld Z h83 b83 "com/example/helm_of_panes/helmofpanes/input/InputEvent" "code" "I" (.int (0 : Int32)) := D83 (Or.inr (hw _ (List.mem_of_getElem? (i := 17) rfl))) (ty := .int) (by decide)
      have F83_19 : Fld Z h83 b83 "com/example/helm_of_panes/helmofpanes/input/InputEvent" "value" "I" (.int (0 : Int32)) := D83 (Or.inr (hw _ (List.mem_of_getElem? (i := 19) rfl))) (ty := .int) (by decide)
      refine own_go (B := T83.setTop (mkF m 71 #[.val (.long p1), .second, .val (.long p2), .second, .val (.int p3), .val (.int p4), .val (.int p5), .val (.int p6), .val (.long ta), .second, .val (.long tb), .second, .val (.int ya), .val (.int da), .val (.int yb), .val (.int db), .val (.int (1 : Int32)), .val (.int (0 : Int32)), .unset, .unset, .unset] [(.ref b83)])) (fun t k => st83 _ k) ?_
      refine own_go (B := T83.setTop (mkF m 72 #[.val (.long p1), .second, .val (.long p2), .second, .val (.int p3), .val (.int p4), .val (.int p5), .val (.int p6), .val (.long ta), .second, .val (.long tb), .second, .val (.int ya), .val (.int da), .val (.int yb), .val (.int db), .val (.int (1 : Int32)), .val (.int (0 : Int32)), .unset, .unset, .unset] [(.ref b83), (.ref b83)])) (fun t k => XS.dup X83.here hx rfl (hb hby at_71) rfl rfl k) ?_
      refine own_go (B := T83.setTop (mkF m 74 #[.val (.long p1), .second, .val (.long p2), .second, .val (.int p3), .val (.int p4), .val (.int p5), .val (.int p6), .val (.long ta), .second, .val (.long tb), .second, .val (.int ya), .val (.int da), .val (.int yb), .val (.int db), .val (.int (1 : Int32)), .val (.int (0 : Int32)), .unset, .unset, .unset] [(.long ta), (.ref b83), (.ref b83)])) (fun t k => XS.lload X83.here hx rfl (hb hby at_72) rfl k) ?_
      refine own_go (B := T83.setTop (mkF m 76 #[.val (.long p1), .second, .val (.long p2), .second, .val (.int p3), .val (.int p4), .val (.int p5), .val (.int p6), .val (.long ta), .second, .val (.long tb), .second, .val (.int ya), .val (.int da), .val (.int yb), .val (.int db), .val (.int (1 : Int32)), .val (.int (0 : Int32)), .unset, .unset, .unset] [(.int ya), (.long ta), (.ref b83), (.ref b83)])) (fun t k => XS.iload X83.here hx rfl (hb hby at_74) rfl k) ?_
      refine own_go (B := T83.setTop (mkF m 78 #[.val (.long p1), .second, .val (.long p2), .second, .val (.int p3), .val (.int p4), .val (.int p5), .val (.int p6), .val (.long ta), .second, .val (.long tb), .second, .val (.int ya), .val (.int da), .val (.int yb), .val (.int db), .val (.int (1 : Int32)), .val (.int (0 : Int32)), .unset, .unset, .unset] [(.int da), (.int ya), (.long ta), (.ref b83), (.ref b83)])) (fun t k => XS.iload X83.here hx rfl (hb hby at_76) rfl k) ?_
      refine own_go (B := T83.setTop (mkF m 80 #[.val (.long p1), .second, .val (.long p2), .second, .val (.int p3), .val (.int p4), .val (.int p5), .val (.int p6), .val (.long ta), .second, .val (.long tb), .second, .val (.int ya), .val (.int da), .val (.int yb), .val (.int db), .val (.int (1 : Int32)), .val (.int (0 : Int32)), .unset, .unset, .unset] [(.int p5), (.int da), (.int ya), (.long ta), (.ref b83), (.ref b83)])) (fun t k => XS.iload X83.here hx rfl (hb hby at_78) rfl k) ?_
      obtain ⟨_, _, ⟨T84, L84, k84, n84⟩, -, X84, ⟨Lc84, hQ84, l84, y84, z84⟩, st84⟩ := X83.specialBack hx (y := (⟨"com/example/helm_of_panes/helmofpanes/input/InputEvent", "<init>", "(JIII)V"⟩ : MethodName)) rfl hown (mvT hZ (hw _ (List.mem_of_getElem? (i := 5) rfl))) (mvT hZ (hw _ (List.mem_of_getElem? (i := 6) rfl))) (mvT hZ (hw _ (List.mem_of_getElem? (i := 7) rfl))) (by decide) (backOf (W := 1) (own_rm_iinit l Z a0 hw [] b83 ta ya da p5 h83 n0 O83 A83 g_b83 F83_13 F83_15 F83_17 F83_19 Rta.1 Rya.1 Rya.2 Rda.1 Rda.2) hZ (hw _ (List.mem_of_getElem? (i := 7) rfl)) (hw _ (List.mem_of_getElem? (i := 4) rfl)) (by decide) (by decide)) (g := (mkF m 80 #[.val (.long p1), .second, .val (.long p2), .second, .val (.int p3), .val (.int p4), .val (.int p5), .val (.int p6), .val (.long ta), .second, .val (.long tb), .second, .val (.int ya), .val (.int da), .val (.int yb), .val (.int db), .val (.int (1 : Int32)), .val (.int (0 : Int32)), .unset, .unset, .unset] [(.int p5), (.int da), (.int ya), (.long ta), (.ref b83), (.ref b83)])) rfl (by rw [hml]; rfl) (Steps.refl _) (a := b83) (argsL := [(.long ta), (.int ya), (.int da), (.int p5)]) (rest := [(.ref b83)]) (lenOf own_pd_2 rfl) rfl (by show 2 * 0 + _ ≤ _; exact Nat.le_of_eq rfl) (hb hby at_80) (fun _ _ => ⟨rfl, e83, (by decide : 1 + 0 ≤ _), (by decide : 4 + 0 ≤ _)⟩)
      dsimp only [Pt.U, Pt.locs, Pt.cells, Pt.slots] at X84 l84 y84 z84 st84 hQ84
      subst l84 y84 z84
      obtain ⟨rfl, N84q, Kc84, En84, Fn84_0, Fn84_1, Fn84_2, Fn84_3⟩ := hQ84
      have O84 := O83.keep Kc84 (allS g_b83 all0)
      have N84 := Fr.app N0 N84q
      refine own_go (B := T84.setTop (mkF m 83 #[.val (.long p1), .second, .val (.long p2), .second, .val (.int p3), .val (.int p4), .val (.int p5), .val (.int p6), .val (.long ta), .second, .val (.long tb), .second, .val (.int ya), .val (.int da), .val (.int yb), .val (.int db), .val (.int (1 : Int32)), .val (.int (0 : Int32)), .unset, .unset, .unset] [(.ref b83)])) (fun t k => st84.trans k) ?_
      refine own_go (B := T84.setTop (mkF m 85 #[.val (.long p1), .second, .val (.long p2), .second, .val (.int p3), .val (.int p4), .val (.int p5), .val (.int p6), .val (.long ta), .second, .val (.long tb), .second, .val (.int ya), .val (.int da), .val (.int yb), .val (.int db), .val (.int (1 : Int32)), .val (.int (0 : Int32)), .val (.ref b83), .unset, .unset] [])) (fun t k => XS.astore X84.here hx rfl (hb hby at_83) rfl rfl (l' := #[.val (.long p1), .second, .val (.long p2), .second, .val (.int p3), .val (.int p4), .val (.int p5), .val (.int p6), .val (.long ta), .second, .val (.long tb), .second, .val (.int ya), .val (.int da), .val (.int yb), .val (.int db), .val (.int (1 : Int32)), .val (.int (0 : Int32)), .val (.ref b83), .unset, .unset]) rfl k) ?_
      refine own_go (B := T84.setTop (mkF m 87 #[.val (.long p1), .second, .val (.long p2), .second, .val (.int p3), .val (.int p4), .val (.int p5), .val (.int p6), .val (.long ta), .second, .val (.long tb), .second, .val (.int ya), .val (.int da), .val (.int yb), .val (.int db), .val (.int (1 : Int32)), .val (.int (0 : Int32)), .val (.ref b83), .unset, .unset] [(.int (0 : Int32))])) (fun t k => XS.iload X84.here hx rfl (hb hby at_85) rfl k) ?_
      refine own_go (B := T84.setTop (mkF m 123 #[.val (.long p1), .second, .val (.long p2), .second, .val (.int p3), .val (.int p4), .val (.int p5), .val (.int p6), .val (.long ta), .second, .val (.long tb), .second, .val (.int ya), .val (.int da), .val (.int yb), .val (.int db), .val (.int (1 : Int32)), .val (.int (0 : Int32)), .val (.ref b83), .unset, .unset] [])) (fun t k => XS.ifYes X84.here hx rfl (pc0 := 87) (pc' := 123) rfl (hb hby at_87) rfl ((if0 _ _).trans (teq (by decide : (0 : Int32) = (0 : Int32))).1) (by decide) (by decide) k) ?_
      refine own_go (B := T84.setTop (mkF m 125 #[.val (.long p1), .second, .val (.long p2), .second, .val (.int p3), .val (.int p4), .val (.int p5), .val (.int p6), .val (.long ta), .second, .val (.long tb), .second, .val (.int ya), .val (.int da), .val (.int yb), .val (.int db), .val (.int (1 : Int32)), .val (.int (0 : Int32)), .val (.ref b83), .unset, .unset] [(.int (1 : Int32))])) (fun t k => XS.iload X84.here hx rfl (hb hby at_123) rfl k) ?_
      refine own_go (B := T84.setTop (mkF m 128 #[.val (.long p1), .second, .val (.long p2), .second, .val (.int p3), .val (.int p4), .val (.int p5), .val (.int p6), .val (.long ta), .second, .val (.long tb), .second, .val (.int ya), .val (.int da), .val (.int yb), .val (.int db), .val (.int (1 : Int32)), .val (.int (0 : Int32)), .val (.ref b83), .unset, .unset] [])) (fun t k => XS.ifNo X84.here hx rfl (hb hby at_125) rfl ((if0 _ _).trans (feq (by decide : ¬ ((1 : Int32) = (0 : Int32)))).1) k) ?_
      refine own_go (B := T84.setTop (mkF m 130 #[.val (.long p1), .second, .val (.long p2), .second, .val (.int p3), .val (.int p4), .val (.int p5), .val (.int p6), .val (.long ta), .second, .val (.long tb), .second, .val (.int ya), .val (.int da), .val (.int yb), .val (.int db), .val (.int (1 : Int32)), .val (.int (0 : Int32)), .val (.ref b83), .unset, .unset] [(.ref b83)])) (fun t k => XS.aload X84.here hx rfl (hb hby at_128) rfl rfl k) ?_
      refine own_go (B := T84.setTop (mkF m 132 #[.val (.long p1), .second, .val (.long p2), .second, .val (.int p3), .val (.int p4), .val (.int p5), .val (.int p6), .val (.long ta), .second, .val (.long tb), .second, .val (.int ya), .val (.int da), .val (.int yb), .val (.int db), .val (.int (1 : Int32)), .val (.int (0 : Int32)), .val (.ref b83), .unset, .unset] [(.ref b83), (.ref b83)])) (fun t k => XS.aload X84.here hx rfl (hb hby at_130) rfl rfl k) ?_
      have f88 := (A83.keep Kc84)
      obtain ⟨cq87, kq87, q87a, q87b, q87c⟩ := isOf hZ (rfl : T84.heap = T84.heap) f88
      obtain ⟨_, _, ⟨T87, L87, k87, n87⟩, -, X87, ⟨Lc87, hQ87, l87, y87, z87⟩, st87⟩ := X84.virtualBack hx (y := (⟨"com/example/helm_of_panes/helmofpanes/input/InputEvent", "equals", "(Ljava/lang/Object;)Z"⟩ : MethodName)) (z := (⟨"com/example/helm_of_panes/helmofpanes/input/InputEvent", "equals", "(Ljava/lang/Object;)Z"⟩ : MethodName)) hown (mvT hZ (hw _ (List.mem_of_getElem? (i := 20) rfl))) (mvT hZ (hw _ (List.mem_of_getElem? (i := 21) rfl))) (notFace_of_selects (args := #[]) (mvT hZ (hw _ (List.mem_of_getElem? (i := 23) rfl)))) (mvT hZ (hw _ (List.mem_of_getElem? (i := 23) rfl))) (mvT hZ (hw _ (List.mem_of_getElem? (i := 22) rfl))) (by decide) (backOf (W := 0) (own_rm_eqS l Z a0 hw [] b83 T84.heap n0 O84) hZ (hw _ (List.mem_of_getElem? (i := 24) rfl)) (hw _ (List.mem_of_getElem? (i := 4) rfl)) (by decide) (by decide)) q87a q87c (g := (mkF m 132 #[.val (.long p1), .second, .val (.long p2), .second, .val (.int p3), .val (.int p4), .val (.int p5), .val (.int p6), .val (.long ta), .second, .val (.long tb), .second, .val (.int ya), .val (.int da), .val (.int yb), .val (.int db), .val (.int (1 : Int32)), .val (.int (0 : Int32)), .val (.ref b83), .unset, .unset] [(.ref b83), (.ref b83)])) rfl (by rw [hml]; rfl) (Steps.refl _) (argsL := [(.ref b83)]) (rest := []) (lenOf own_pd_3 rfl) rfl (by show 2 * 0 + _ ≤ _; exact Nat.le_of_eq rfl) (hb hby at_132) (fun _ _ => ⟨rfl, (rfl : T84.heap = T84.heap), (by decide : 1 + 0 ≤ _), (by decide : 4 + 0 ≤ _)⟩)
      dsimp only [Pt.U, Pt.locs, Pt.cells, Pt.slots] at X87 l87 y87 z87 st87 hQ87
      subst l87 y87 z87
      obtain ⟨rfl, N87q, eh87⟩ := hQ87
      have N87 := Fr.app N84 N87q
      refine own_go (B := T87.setTop (mkF m 135 #[.val (.long p1), .second, .val (.long p2), .second, .val (.int p3), .val (.int p4), .val (.int p5), .val (.int p6), .val (.long ta), .second, .val (.long tb), .second, .val (.int ya), .val (.int da), .val (.int yb), .val (.int db), .val (.int (1 : Int32)), .val (.int (0 : Int32)), .val (.ref b83), .unset, .unset] [(.int (1 : Int32))])) (fun t k => st87.trans k) ?_
      obtain ⟨fs, hr, hrun, hended, hW, hsame⟩ := X87.leave (v := some (.int (1 : Int32))) (fun h => by rw [Bd.returns] at h; cases h)
      refine ⟨_, _, retN X87 hx (t := .boolean) Bd.returns (by simp) (hb hby at_135) hr, hK _ _ ⟨hrun, hended, _, _, rfl, ?_, ⟨_, rfl⟩, hW, hsame.mono (by decide) (by decide)⟩⟩
      show own_Q_law Z p1 p2 p3 p4 p5 p6 w_cache cl h0 n0 _ T87.heap _
      rw [eh87]
      exact ⟨rfl, N87⟩
  · refine own_go (B := s₁.setTop (mkF m 52 #[.val (.long p1), .second, .val (.long p2), .second, .val (.int p3), .val (.int p4), .val (.int p5), .val (.int p6), .val (.long ta), .second, .val (.long tb), .second, .val (.int ya), .val (.int da), .val (.int yb), .val (.int db), .unset, .unset, .unset, .unset, .unset] [])) (fun t k => XS.ifYes X0.here hx rfl (pc0 := 45) (pc' := 52) rfl (hb hby at_45) rfl ((if0 _ _).trans (flt (fun q => hc45_68 ((lw_lt p1 (0 : Int64)).mp q))).2.1) (by decide) (by decide) k) ?_
    refine own_go (B := s₁.setTop (mkF m 53 #[.val (.long p1), .second, .val (.long p2), .second, .val (.int p3), .val (.int p4), .val (.int p5), .val (.int p6), .val (.long ta), .second, .val (.long tb), .second, .val (.int ya), .val (.int da), .val (.int yb), .val (.int db), .unset, .unset, .unset, .unset, .unset] [(.int (0 : Int32))])) (fun t k => XS.iconst X0.here hx rfl (hb hby at_52) k) ?_
    refine own_go (B := s₁.setTop (mkF m 55 #[.val (.long p1), .second, .val (.long p2), .second, .val (.int p3), .val (.int p4), .val (.int p5), .val (.int p6), .val (.long ta), .second, .val (.long tb), .second, .val (.int ya), .val (.int da), .val (.int yb), .val (.int db), .val (.int (0 : Int32)), .unset, .unset, .unset, .unset] [])) (fun t k => XS.istore X0.here hx rfl (hb hby at_53) rfl (l' := #[.val (.long p1), .second, .val (.long p2), .second, .val (.int p3), .val (.int p4), .val (.int p5), .val (.int p6), .val (.long ta), .second, .val (.long tb), .second, .val (.int ya), .val (.int da), .val (.int yb), .val (.int db), .val (.int (0 : Int32)), .unset, .unset, .unset, .unset]) rfl k) ?_
    refine own_go (B := s₁.setTop (mkF m 56 #[.val (.long p1), .second, .val (.long p2), .second, .val (.int p3), .val (.int p4), .val (.int p5), .val (.int p6), .val (.long ta), .second, .val (.long tb), .second, .val (.int ya), .val (.int da), .val (.int yb), .val (.int db), .val (.int (0 : Int32)), .unset, .unset, .unset, .unset] [(.long p2)])) (fun t k => XS.lloadN X0.here hx rfl (hb hby at_55) rfl k) ?_
    refine own_go (B := s₁.setTop (mkF m 57 #[.val (.long p1), .second, .val (.long p2), .second, .val (.int p3), .val (.int p4), .val (.int p5), .val (.int p6), .val (.long ta), .second, .val (.long tb), .second, .val (.int ya), .val (.int da), .val (.int yb), .val (.int db), .val (.int (0 : Int32)), .unset, .unset, .unset, .unset] [(.long (0 : Int64)), (.long p2)])) (fun t k => XS.lconst X0.here hx rfl (hb hby at_56) k) ?_
    refine own_go (B := s₁.setTop (mkF m 58 #[.val (.long p1), .second, .val (.long p2), .second, .val (.int p3), .val (.int p4), .val (.int p5), .val (.int p6), .val (.long ta), .second, .val (.long tb), .second, .val (.int ya), .val (.int da), .val (.int yb), .val (.int db), .val (.int (0 : Int32)), .unset, .unset, .unset, .unset] [(.int (lcmpW p2 (0 : Int64)))])) (fun t k => XS.lcmp X0.here hx rfl (hb hby at_57) rfl k) ?_
    by_cases hc58_90 : p2 < (0 : Int64)
    · refine own_go (B := s₁.setTop (mkF m 61 #[.val (.long p1), .second, .val (.long p2), .second, .val (.int p3), .val (.int p4), .val (.int p5), .val (.int p6), .val (.long ta), .second, .val (.long tb), .second, .val (.int ya), .val (.int da), .val (.int yb), .val (.int db), .val (.int (0 : Int32)), .unset, .unset, .unset, .unset] [])) (fun t k => XS.ifNo X0.here hx rfl (hb hby at_58) rfl ((if0 _ _).trans (tlt ((lw_lt p2 (0 : Int64)).mpr hc58_90)).2.1) k) ?_
      refine own_go (B := s₁.setTop (mkF m 62 #[.val (.long p1), .second, .val (.long p2), .second, .val (.int p3), .val (.int p4), .val (.int p5), .val (.int p6), .val (.long ta), .second, .val (.long tb), .second, .val (.int ya), .val (.int da), .val (.int yb), .val (.int db), .val (.int (0 : Int32)), .unset, .unset, .unset, .unset] [(.int (1 : Int32))])) (fun t k => XS.iconst X0.here hx rfl (hb hby at_61) k) ?_
      refine own_go (B := s₁.setTop (mkF m 66 #[.val (.long p1), .second, .val (.long p2), .second, .val (.int p3), .val (.int p4), .val (.int p5), .val (.int p6), .val (.long ta), .second, .val (.long tb), .second, .val (.int ya), .val (.int da), .val (.int yb), .val (.int db), .val (.int (0 : Int32)), .unset, .unset, .unset, .unset] [(.int (1 : Int32))])) (fun t k => XS.goto X0.here hx rfl (pc0 := 62) (pc' := 66) rfl (hb hby at_62) (by decide) (by decide) k) ?_
      refine own_go (B := s₁.setTop (mkF m 68 #[.val (.long p1), .second, .val (.long p2), .second, .val (.int p3), .val (.int p4), .val (.int p5), .val (.int p6), .val (.long ta), .second, .val (.long tb), .second, .val (.int ya), .val (.int da), .val (.int yb), .val (.int db), .val (.int (0 : Int32)), .val (.int (1 : Int32)), .unset, .unset, .unset] [])) (fun t k => XS.istore X0.here hx rfl (hb hby at_66) rfl (l' := #[.val (.long p1), .second, .val (.long p2), .second, .val (.int p3), .val (.int p4), .val (.int p5), .val (.int p6), .val (.long ta), .second, .val (.long tb), .second, .val (.int ya), .val (.int da), .val (.int yb), .val (.int db), .val (.int (0 : Int32)), .val (.int (1 : Int32)), .unset, .unset, .unset]) rfl k) ?_
      obtain ⟨T91, h91, X91, e91, E91, A91, D91, -, st91⟩ := newO X0 hx hZ hown (hw _ (List.mem_of_getElem? (i := 2) rfl)) (hw _ (List.mem_of_getElem? (i := 3) rfl)) (hw _ (List.mem_of_getElem? (i := 4) rfl)) e0 (g := (mkF m 68 #[.val (.long p1), .second, .val (.long p2), .second, .val (.int p3), .val (.int p4), .val (.int p5), .val (.int p6), .val (.long ta), .second, .val (.long tb), .second, .val (.int ya), .val (.int da), .val (.int yb), .val (.int db), .val (.int (0 : Int32)), .val (.int (1 : Int32)), .unset, .unset, .unset] [])) rfl (hb hby at_68) (by decide) (by decide)
      obtain ⟨b91, g91⟩ : ∃ z, z = h0.size := ⟨_, rfl⟩
      rw [← g91] at A91 D91 st91
      have g_b91 : n0 ≤ b91 := Nat.le_trans (own_n0 O0) (Nat.le_of_eq g91.symm)
      have O91 := O0.ext E91
      have F91_13 : Fld Z h91 b91 "com/example/helm_of_panes/helmofpanes/input/InputEvent" "timeMicros" "J" (.long (0 : Int64)) := D91 (Or.inr (hw _ (List.mem_of_getElem? (i := 13) rfl))) (ty := .long) (by decide)
      have F91_15 : Fld Z h91 b91 "com/example/helm_of_panes/helmofpanes/input/InputEvent" "type" "I" (.int (0 : Int32)) := D91 (Or.inr (hw _ (List.mem_of_getElem? (i := 15) rfl))) (ty := .int) (by decide)
      have F91_17 : Fld Z h91 b91 "com/example/helm_of_panes/helmofpanes/input/InputEvent" "code" "I" (.int (0 : Int32)) := D91 (Or.inr (hw _ (List.mem_of_getElem? (i := 17) rfl))) (ty := .int) (by decide)
      have F91_19 : Fld Z h91 b91 "com/example/helm_of_panes/helmofpanes/input/InputEvent" "value" "I" (.int (0 : Int32)) := D91 (Or.inr (hw _ (List.mem_of_getElem? (i := 19) rfl))) (ty := .int) (by decide)
      refine own_go (B := T91.setTop (mkF m 71 #[.val (.long p1), .second, .val (.long p2), .second, .val (.int p3), .val (.int p4), .val (.int p5), .val (.int p6), .val (.long ta), .second, .val (.long tb), .second, .val (.int ya), .val (.int da), .val (.int yb), .val (.int db), .val (.int (0 : Int32)), .val (.int (1 : Int32)), .unset, .unset, .unset] [(.ref b91)])) (fun t k => st91 _ k) ?_
      refine own_go (B := T91.setTop (mkF m 72 #[.val (.long p1), .second, .val (.long p2), .second, .val (.int p3), .val (.int p4), .val (.int p5), .val (.int p6), .val (.long ta), .second, .val (.long tb), .second, .val (.int ya), .val (.int da), .val (.int yb), .val (.int db), .val (.int (0 : Int32)), .val (.int (1 : Int32)), .unset, .unset, .unset] [(.ref b91), (.ref b91)])) (fun t k => XS.dup X91.here hx rfl (hb hby at_71) rfl rfl k) ?_
      refine own_go (B := T91.setTop (mkF m 74 #[.val (.long p1), .second, .val (.long p2), .second, .val (.int p3), .val (.int p4), .val (.int p5), .val (.int p6), .val (.long ta), .second, .val (.long tb), .second, .val (.int ya), .val (.int da), .val (.int yb), .val (.int db), .val (.int (0 : Int32)), .val (.int (1 : Int32)), .unset, .unset, .unset] [(.long ta), (.ref b91), (.ref b91)])) (fun t k => XS.lload X91.here hx rfl (hb hby at_72) rfl k) ?_
      refine own_go (B := T91.setTop (mkF m 76 #[.val (.long p1), .second, .val (.long p2), .second, .val (.int p3), .val (.int p4), .val (.int p5), .val (.int p6), .val (.long ta), .second, .val (.long tb), .second, .val (.int ya), .val (.int da), .val (.int yb), .val (.int db), .val (.int (0 : Int32)), .val (.int (1 : Int32)), .unset, .unset, .unset] [(.int ya), (.long ta), (.ref b91), (.ref b91)])) (fun t k => XS.iload X91.here hx rfl (hb hby at_74) rfl k) ?_
      refine own_go (B := T91.setTop (mkF m 78 #[.val (.long p1), .second, .val (.long p2), .second, .val (.int p3), .val (.int p4), .val (.int p5), .val (.int p6), .val (.long ta), .second, .val (.long tb), .second, .val (.int ya), .val (.int da), .val (.int yb), .val (.int db), .val (.int (0 : Int32)), .val (.int (1 : Int32)), .unset, .unset, .unset] [(.int da), (.int ya), (.long ta), (.ref b91), (.ref b91)])) (fun t k => XS.iload X91.here hx rfl (hb hby at_76) rfl k) ?_
      refine own_go (B := T91.setTop (mkF m 80 #[.val (.long p1), .second, .val (.long p2), .second, .val (.int p3), .val (.int p4), .val (.int p5), .val (.int p6), .val (.long ta), .second, .val (.long tb), .second, .val (.int ya), .val (.int da), .val (.int yb), .val (.int db), .val (.int (0 : Int32)), .val (.int (1 : Int32)), .unset, .unset, .unset] [(.int p5), (.int da), (.int ya), (.long ta), (.ref b91), (.ref b91)])) (fun t k => XS.iload X91.here hx rfl (hb hby at_78) rfl k) ?_
      obtain ⟨_, _, ⟨T92, L92, k92, n92⟩, -, X92, ⟨Lc92, hQ92, l92, y92, z92⟩, st92⟩ := X91.specialBack hx (y := (⟨"com/example/helm_of_panes/helmofpanes/input/InputEvent", "<init>", "(JIII)V"⟩ : MethodName)) rfl hown (mvT hZ (hw _ (List.mem_of_getElem? (i := 5) rfl))) (mvT hZ (hw _ (List.mem_of_getElem? (i := 6) rfl))) (mvT hZ (hw _ (List.mem_of_getElem? (i := 7) rfl))) (by decide) (backOf (W := 1) (own_rm_iinit l Z a0 hw [] b91 ta ya da p5 h91 n0 O91 A91 g_b91 F91_13 F91_15 F91_17 F91_19 Rta.1 Rya.1 Rya.2 Rda.1 Rda.2) hZ (hw _ (List.mem_of_getElem? (i := 7) rfl)) (hw _ (List.mem_of_getElem? (i := 4) rfl)) (by decide) (by decide)) (g := (mkF m 80 #[.val (.long p1), .second, .val (.long p2), .second, .val (.int p3), .val (.int p4), .val (.int p5), .val (.int p6), .val (.long ta), .second, .val (.long tb), .second, .val (.int ya), .val (.int da), .val (.int yb), .val (.int db), .val (.int (0 : Int32)), .val (.int (1 : Int32)), .unset, .unset, .unset] [(.int p5), (.int da), (.int ya), (.long ta), (.ref b91), (.ref b91)])) rfl (by rw [hml]; rfl) (Steps.refl _) (a := b91) (argsL := [(.long ta), (.int ya), (.int da), (.int p5)]) (rest := [(.ref b91)]) (lenOf own_pd_2 rfl) rfl (by show 2 * 0 + _ ≤ _; exact Nat.le_of_eq rfl) (hb hby at_80) (fun _ _ => ⟨rfl, e91, (by decide : 1 + 0 ≤ _), (by decide : 4 + 0 ≤ _)⟩)
      dsimp only [Pt.U, Pt.locs, Pt.cells, Pt.slots] at X92 l92 y92 z92 st92 hQ92
      subst l92 y92 z92
      obtain ⟨rfl, N92q, Kc92, En92, Fn92_0, Fn92_1, Fn92_2, Fn92_3⟩ := hQ92
      have O92 := O91.keep Kc92 (allS g_b91 all0)
      have N92 := Fr.app N0 N92q
      refine own_go (B := T92.setTop (mkF m 83 #[.val (.long p1), .second, .val (.long p2), .second, .val (.int p3), .val (.int p4), .val (.int p5), .val (.int p6), .val (.long ta), .second, .val (.long tb), .second, .val (.int ya), .val (.int da), .val (.int yb), .val (.int db), .val (.int (0 : Int32)), .val (.int (1 : Int32)), .unset, .unset, .unset] [(.ref b91)])) (fun t k => st92.trans k) ?_
      refine own_go (B := T92.setTop (mkF m 85 #[.val (.long p1), .second, .val (.long p2), .second, .val (.int p3), .val (.int p4), .val (.int p5), .val (.int p6), .val (.long ta), .second, .val (.long tb), .second, .val (.int ya), .val (.int da), .val (.int yb), .val (.int db), .val (.int (0 : Int32)), .val (.int (1 : Int32)), .val (.ref b91), .unset, .unset] [])) (fun t k => XS.astore X92.here hx rfl (hb hby at_83) rfl rfl (l' := #[.val (.long p1), .second, .val (.long p2), .second, .val (.int p3), .val (.int p4), .val (.int p5), .val (.int p6), .val (.long ta), .second, .val (.long tb), .second, .val (.int ya), .val (.int da), .val (.int yb), .val (.int db), .val (.int (0 : Int32)), .val (.int (1 : Int32)), .val (.ref b91), .unset, .unset]) rfl k) ?_
      refine own_go (B := T92.setTop (mkF m 87 #[.val (.long p1), .second, .val (.long p2), .second, .val (.int p3), .val (.int p4), .val (.int p5), .val (.int p6), .val (.long ta), .second, .val (.long tb), .second, .val (.int ya), .val (.int da), .val (.int yb), .val (.int db), .val (.int (0 : Int32)), .val (.int (1 : Int32)), .val (.ref b91), .unset, .unset] [(.int (1 : Int32))])) (fun t k => XS.iload X92.here hx rfl (hb hby at_85) rfl k) ?_
      refine own_go (B := T92.setTop (mkF m 90 #[.val (.long p1), .second, .val (.long p2), .second, .val (.int p3), .val (.int p4), .val (.int p5), .val (.int p6), .val (.long ta), .second, .val (.long tb), .second, .val (.int ya), .val (.int da), .val (.int yb), .val (.int db), .val (.int (0 : Int32)), .val (.int (1 : Int32)), .val (.ref b91), .unset, .unset] [])) (fun t k => XS.ifNo X92.here hx rfl (hb hby at_87) rfl ((if0 _ _).trans (feq (by decide : ¬ ((1 : Int32) = (0 : Int32)))).1) k) ?_
      refine own_go (B := T92.setTop (mkF m 91 #[.val (.long p1), .second, .val (.long p2), .second, .val (.int p3), .val (.int p4), .val (.int p5), .val (.int p6), .val (.long ta), .second, .val (.long tb), .second, .val (.int ya), .val (.int da), .val (.int yb), .val (.int db), .val (.int (0 : Int32)), .val (.int (1 : Int32)), .val (.ref b91), .unset, .unset] [.null])) (fun t k => XS.aconstNull X92.here hx rfl (hb hby at_90) k) ?_
      refine own_go (B := T92.setTop (mkF m 93 #[.val (.long p1), .second, .val (.long p2), .second, .val (.int p3), .val (.int p4), .val (.int p5), .val (.int p6), .val (.long ta), .second, .val (.long tb), .second, .val (.int ya), .val (.int da), .val (.int yb), .val (.int db), .val (.int (0 : Int32)), .val (.int (1 : Int32)), .val (.ref b91), .val .null, .unset] [])) (fun t k => XS.astore X92.here hx rfl (hb hby at_91) rfl rfl (l' := #[.val (.long p1), .second, .val (.long p2), .second, .val (.int p3), .val (.int p4), .val (.int p5), .val (.int p6), .val (.long ta), .second, .val (.long tb), .second, .val (.int ya), .val (.int da), .val (.int yb), .val (.int db), .val (.int (0 : Int32)), .val (.int (1 : Int32)), .val (.ref b91), .val .null, .unset]) rfl k) ?_
      refine own_go (B := T92.setTop (mkF m 95 #[.val (.long p1), .second, .val (.long p2), .second, .val (.int p3), .val (.int p4), .val (.int p5), .val (.int p6), .val (.long ta), .second, .val (.long tb), .second, .val (.int ya), .val (.int da), .val (.int yb), .val (.int db), .val (.int (0 : Int32)), .val (.int (1 : Int32)), .val (.ref b91), .val .null, .unset] [(.int p6)])) (fun t k => XS.iload X92.here hx rfl (hb hby at_93) rfl k) ?_
      refine own_go (B := T92.setTop (mkF m 96 #[.val (.long p1), .second, .val (.long p2), .second, .val (.int p3), .val (.int p4), .val (.int p5), .val (.int p6), .val (.long ta), .second, .val (.long tb), .second, .val (.int ya), .val (.int da), .val (.int yb), .val (.int db), .val (.int (0 : Int32)), .val (.int (1 : Int32)), .val (.ref b91), .val .null, .unset] [(.int (1 : Int32)), (.int p6)])) (fun t k => XS.iconst X92.here hx rfl (hb hby at_95) k) ?_
      refine own_go (B := T92.setTop (mkF m 97 #[.val (.long p1), .second, .val (.long p2), .second, .val (.int p3), .val (.int p4), .val (.int p5), .val (.int p6), .val (.long ta), .second, .val (.long tb), .second, .val (.int ya), .val (.int da), .val (.int yb), .val (.int db), .val (.int (0 : Int32)), .val (.int (1 : Int32)), .val (.ref b91), .val .null, .unset] [(.int (p6 &&& (1 : Int32)))])) (fun t k => XS.iand X92.here hx rfl (hb hby at_96) rfl k) ?_
      by_cases hc97_94 : (p6 &&& (1 : Int32)) = (0 : Int32)
      · refine own_go (B := T92.setTop (mkF m 107 #[.val (.long p1), .second, .val (.long p2), .second, .val (.int p3), .val (.int p4), .val (.int p5), .val (.int p6), .val (.long ta), .second, .val (.long tb), .second, .val (.int ya), .val (.int da), .val (.int yb), .val (.int db), .val (.int (0 : Int32)), .val (.int (1 : Int32)), .val (.ref b91), .val .null, .unset] [])) (fun t k => XS.ifYes X92.here hx rfl (pc0 := 97) (pc' := 107) rfl (hb hby at_97) rfl ((if0 _ _).trans (teq hc97_94).1) (by decide) (by decide) k) ?_
        refine own_go (B := T92.setTop (mkF m 109 #[.val (.long p1), .second, .val (.long p2), .second, .val (.int p3), .val (.int p4), .val (.int p5), .val (.int p6), .val (.long ta), .second, .val (.long tb), .second, .val (.int ya), .val (.int da), .val (.int yb), .val (.int db), .val (.int (0 : Int32)), .val (.int (1 : Int32)), .val (.ref b91), .val .null, .unset] [(.ref b91)])) (fun t k => XS.aload X92.here hx rfl (hb hby at_107) rfl rfl k) ?_
        refine own_go (B := T92.setTop (mkF m 111 #[.val (.long p1), .second, .val (.long p2), .second, .val (.int p3), .val (.int p4), .val (.int p5), .val (.int p6), .val (.long ta), .second, .val (.long tb), .second, .val (.int ya), .val (.int da), .val (.int yb), .val (.int db), .val (.int (0 : Int32)), .val (.int (1 : Int32)), .val (.ref b91), .val .null, .unset] [.null, (.ref b91)])) (fun t k => XS.aload X92.here hx rfl (hb hby at_109) rfl rfl k) ?_
        have f96 := (A91.keep Kc92)
        obtain ⟨cq95, kq95, q95a, q95b, q95c⟩ := isOf hZ (rfl : T92.heap = T92.heap) f96
        obtain ⟨_, _, ⟨T95, L95, k95, n95⟩, -, X95, ⟨Lc95, hQ95, l95, y95, z95⟩, st95⟩ := X92.virtualBack hx (y := (⟨"com/example/helm_of_panes/helmofpanes/input/InputEvent", "equals", "(Ljava/lang/Object;)Z"⟩ : MethodName)) (z := (⟨"com/example/helm_of_panes/helmofpanes/input/InputEvent", "equals", "(Ljava/lang/Object;)Z"⟩ : MethodName)) hown (mvT hZ (hw _ (List.mem_of_getElem? (i := 20) rfl))) (mvT hZ (hw _ (List.mem_of_getElem? (i := 21) rfl))) (notFace_of_selects (args := #[]) (mvT hZ (hw _ (List.mem_of_getElem? (i := 23) rfl)))) (mvT hZ (hw _ (List.mem_of_getElem? (i := 23) rfl))) (mvT hZ (hw _ (List.mem_of_getElem? (i := 22) rfl))) (by decide) (backOf (W := 0) (own_rm_eqN l Z a0 hw [] b91 T92.heap n0 O92) hZ (hw _ (List.mem_of_getElem? (i := 24) rfl)) (hw _ (List.mem_of_getElem? (i := 4) rfl)) (by decide) (by decide)) q95a q95c (g := (mkF m 111 #[.val (.long p1), .second, .val (.long p2), .second, .val (.int p3), .val (.int p4), .val (.int p5), .val (.int p6), .val (.long ta), .second, .val (.long tb), .second, .val (.int ya), .val (.int da), .val (.int yb), .val (.int db), .val (.int (0 : Int32)), .val (.int (1 : Int32)), .val (.ref b91), .val .null, .unset] [.null, (.ref b91)])) rfl (by rw [hml]; rfl) (Steps.refl _) (argsL := [.null]) (rest := []) (lenOf own_pd_3 rfl) rfl (by show 2 * 0 + _ ≤ _; exact Nat.le_of_eq rfl) (hb hby at_111) (fun _ _ => ⟨rfl, (rfl : T92.heap = T92.heap), (by decide : 1 + 0 ≤ _), (by decide : 4 + 0 ≤ _)⟩)
        dsimp only [Pt.U, Pt.locs, Pt.cells, Pt.slots] at X95 l95 y95 z95 st95 hQ95
        subst l95 y95 z95
        obtain ⟨rfl, N95q, eh95⟩ := hQ95
        have N95 := Fr.app N92 N95q
        refine own_go (B := T95.setTop (mkF m 114 #[.val (.long p1), .second, .val (.long p2), .second, .val (.int p3), .val (.int p4), .val (.int p5), .val (.int p6), .val (.long ta), .second, .val (.long tb), .second, .val (.int ya), .val (.int da), .val (.int yb), .val (.int db), .val (.int (0 : Int32)), .val (.int (1 : Int32)), .val (.ref b91), .val .null, .unset] [(.int (0 : Int32))])) (fun t k => st95.trans k) ?_
        refine own_go (B := T95.setTop (mkF m 117 #[.val (.long p1), .second, .val (.long p2), .second, .val (.int p3), .val (.int p4), .val (.int p5), .val (.int p6), .val (.long ta), .second, .val (.long tb), .second, .val (.int ya), .val (.int da), .val (.int yb), .val (.int db), .val (.int (0 : Int32)), .val (.int (1 : Int32)), .val (.ref b91), .val .null, .unset] [])) (fun t k => XS.ifNo X95.here hx rfl (hb hby at_114) rfl ((if0 _ _).trans (teq (by decide : (0 : Int32) = (0 : Int32))).2) k) ?_
        refine own_go (B := T95.setTop (mkF m 118 #[.val (.long p1), .second, .val (.long p2), .second, .val (.int p3), .val (.int p4), .val (.int p5), .val (.int p6), .val (.long ta), .second, .val (.long tb), .second, .val (.int ya), .val (.int da), .val (.int yb), .val (.int db), .val (.int (0 : Int32)), .val (.int (1 : Int32)), .val (.ref b91), .val .null, .unset] [(.int (1 : Int32))])) (fun t k => XS.iconst X95.here hx rfl (hb hby at_117) k) ?_
        refine own_go (B := T95.setTop (mkF m 122 #[.val (.long p1), .second, .val (.long p2), .second, .val (.int p3), .val (.int p4), .val (.int p5), .val (.int p6), .val (.long ta), .second, .val (.long tb), .second, .val (.int ya), .val (.int da), .val (.int yb), .val (.int db), .val (.int (0 : Int32)), .val (.int (1 : Int32)), .val (.ref b91), .val .null, .unset] [(.int (1 : Int32))])) (fun t k => XS.goto X95.here hx rfl (pc0 := 118) (pc' := 122) rfl (hb hby at_118) (by decide) (by decide) k) ?_
        obtain ⟨fs, hr, hrun, hended, hW, hsame⟩ := X95.leave (v := some (.int (1 : Int32))) (fun h => by rw [Bd.returns] at h; cases h)
        refine ⟨_, _, retN X95 hx (t := .boolean) Bd.returns (by simp) (hb hby at_122) hr, hK _ _ ⟨hrun, hended, _, _, rfl, ?_, ⟨_, rfl⟩, hW, hsame.mono (by decide) (by decide)⟩⟩
        show own_Q_law Z p1 p2 p3 p4 p5 p6 w_cache cl h0 n0 _ T95.heap _
        rw [eh95]
        exact ⟨rfl, N95⟩
      · refine own_go (B := T92.setTop (mkF m 100 #[.val (.long p1), .second, .val (.long p2), .second, .val (.int p3), .val (.int p4), .val (.int p5), .val (.int p6), .val (.long ta), .second, .val (.long tb), .second, .val (.int ya), .val (.int da), .val (.int yb), .val (.int db), .val (.int (0 : Int32)), .val (.int (1 : Int32)), .val (.ref b91), .val .null, .unset] [])) (fun t k => XS.ifNo X92.here hx rfl (hb hby at_97) rfl ((if0 _ _).trans (feq hc97_94).1) k) ?_
        refine own_go (B := T92.setTop (mkF m 102 #[.val (.long p1), .second, .val (.long p2), .second, .val (.int p3), .val (.int p4), .val (.int p5), .val (.int p6), .val (.long ta), .second, .val (.long tb), .second, .val (.int ya), .val (.int da), .val (.int yb), .val (.int db), .val (.int (0 : Int32)), .val (.int (1 : Int32)), .val (.ref b91), .val .null, .unset] [(.int p6)])) (fun t k => XS.iload X92.here hx rfl (hb hby at_100) rfl k) ?_
        obtain ⟨_, _, ⟨T99, L99, k99, n99⟩, -, X99, ⟨Lc99, hQ99, l99, y99, z99⟩, st99⟩ := Jvm.LawKit.callS X92 hx (y := (⟨"java/lang/Integer", "valueOf", "(I)Ljava/lang/Integer;"⟩ : MethodName)) hown (mvT hZ (hw _ (List.mem_of_getElem? (i := 27) rfl))) (mvT hZ (hw _ (List.mem_of_getElem? (i := 28) rfl))) (mvT hZ (hw _ (List.mem_of_getElem? (i := 29) rfl))) (mvT hZ (hw _ (List.mem_of_getElem? (i := 30) rfl))) (by decide) (backOf (W := 0) (own_rm_valueOf l Z a0 hw [] p6 w_cache cl T92.heap n0 O92 Hc) hZ (hw _ (List.mem_of_getElem? (i := 30) rfl)) (hw _ (List.mem_of_getElem? (i := 29) rfl)) (by decide) (by decide)) (g := (mkF m 102 #[.val (.long p1), .second, .val (.long p2), .second, .val (.int p3), .val (.int p4), .val (.int p5), .val (.int p6), .val (.long ta), .second, .val (.long tb), .second, .val (.int ya), .val (.int da), .val (.int yb), .val (.int db), .val (.int (0 : Int32)), .val (.int (1 : Int32)), .val (.ref b91), .val .null, .unset] [(.int p6)])) rfl (by rw [hml]; rfl) (argsL := [(.int p6)]) (rest := []) (lenOf own_pd_4 rfl) rfl (by show 2 * 0 + _ ≤ _; exact Nat.le_of_eq rfl) (hb hby at_102) (fun _ _ => ⟨rfl, (rfl : T92.heap = T92.heap), (by decide : 1 + 1 ≤ _), (by decide : 4 + 1 ≤ _)⟩)
        dsimp only [Pt.U, Pt.locs, Pt.cells, Pt.slots] at X99 l99 y99 z99 st99 hQ99
        subst l99 y99 z99
        obtain ⟨r99, rfl, N99q, Kc99, Ei99⟩ := hQ99
        have E99 := Kc99
        have O99 := O92.ext E99
        have N99 := Fr.app N92 N99q
        refine own_go (B := T99.setTop (mkF m 105 #[.val (.long p1), .second, .val (.long p2), .second, .val (.int p3), .val (.int p4), .val (.int p5), .val (.int p6), .val (.long ta), .second, .val (.long tb), .second, .val (.int ya), .val (.int da), .val (.int yb), .val (.int db), .val (.int (0 : Int32)), .val (.int (1 : Int32)), .val (.ref b91), .val .null, .unset] [(.ref r99)])) (fun t k => st99 _ k) ?_
        refine own_go (B := T99.setTop (mkF m 107 #[.val (.long p1), .second, .val (.long p2), .second, .val (.int p3), .val (.int p4), .val (.int p5), .val (.int p6), .val (.long ta), .second, .val (.long tb), .second, .val (.int ya), .val (.int da), .val (.int yb), .val (.int db), .val (.int (0 : Int32)), .val (.int (1 : Int32)), .val (.ref b91), .val (.ref r99), .unset] [])) (fun t k => XS.astore X99.here hx rfl (hb hby at_105) rfl rfl (l' := #[.val (.long p1), .second, .val (.long p2), .second, .val (.int p3), .val (.int p4), .val (.int p5), .val (.int p6), .val (.long ta), .second, .val (.long tb), .second, .val (.int ya), .val (.int da), .val (.int yb), .val (.int db), .val (.int (0 : Int32)), .val (.int (1 : Int32)), .val (.ref b91), .val (.ref r99), .unset]) rfl k) ?_
        refine own_go (B := T99.setTop (mkF m 109 #[.val (.long p1), .second, .val (.long p2), .second, .val (.int p3), .val (.int p4), .val (.int p5), .val (.int p6), .val (.long ta), .second, .val (.long tb), .second, .val (.int ya), .val (.int da), .val (.int yb), .val (.int db), .val (.int (0 : Int32)), .val (.int (1 : Int32)), .val (.ref b91), .val (.ref r99), .unset] [(.ref b91)])) (fun t k => XS.aload X99.here hx rfl (hb hby at_107) rfl rfl k) ?_
        refine own_go (B := T99.setTop (mkF m 111 #[.val (.long p1), .second, .val (.long p2), .second, .val (.int p3), .val (.int p4), .val (.int p5), .val (.int p6), .val (.long ta), .second, .val (.long tb), .second, .val (.int ya), .val (.int da), .val (.int yb), .val (.int db), .val (.int (0 : Int32)), .val (.int (1 : Int32)), .val (.ref b91), .val (.ref r99), .unset] [(.ref r99), (.ref b91)])) (fun t k => XS.aload X99.here hx rfl (hb hby at_109) rfl rfl k) ?_
        have f100 := ((A91.keep Kc92).ext E99)
        obtain ⟨cq101, kq101, q101a, q101b, q101c⟩ := isOf hZ (rfl : T99.heap = T99.heap) f100
        obtain ⟨_, _, ⟨T101, L101, k101, n101⟩, -, X101, ⟨Lc101, hQ101, l101, y101, z101⟩, st101⟩ := X99.virtualBack hx (y := (⟨"com/example/helm_of_panes/helmofpanes/input/InputEvent", "equals", "(Ljava/lang/Object;)Z"⟩ : MethodName)) (z := (⟨"com/example/helm_of_panes/helmofpanes/input/InputEvent", "equals", "(Ljava/lang/Object;)Z"⟩ : MethodName)) hown (mvT hZ (hw _ (List.mem_of_getElem? (i := 20) rfl))) (mvT hZ (hw _ (List.mem_of_getElem? (i := 21) rfl))) (notFace_of_selects (args := #[]) (mvT hZ (hw _ (List.mem_of_getElem? (i := 23) rfl)))) (mvT hZ (hw _ (List.mem_of_getElem? (i := 23) rfl))) (mvT hZ (hw _ (List.mem_of_getElem? (i := 22) rfl))) (by decide) (backOf (W := 0) (own_rm_eqI l Z a0 hw [] b91 r99 T99.heap n0 O99 (ne_exa f100 Ei99 (by decide)) Ei99 (own_noInt Ei99 (hw _ (List.mem_of_getElem? (i := 46) rfl)) (hw _ (List.mem_of_getElem? (i := 47) rfl)) (hw _ (List.mem_of_getElem? (i := 48) rfl)) (hw _ (List.mem_of_getElem? (i := 3) rfl)) (by decide) (by decide) (by decide))) hZ (hw _ (List.mem_of_getElem? (i := 24) rfl)) (hw _ (List.mem_of_getElem? (i := 4) rfl)) (by decide) (by decide)) q101a q101c (g := (mkF m 111 #[.val (.long p1), .second, .val (.long p2), .second, .val (.int p3), .val (.int p4), .val (.int p5), .val (.int p6), .val (.long ta), .second, .val (.long tb), .second, .val (.int ya), .val (.int da), .val (.int yb), .val (.int db), .val (.int (0 : Int32)), .val (.int (1 : Int32)), .val (.ref b91), .val (.ref r99), .unset] [(.ref r99), (.ref b91)])) rfl (by rw [hml]; rfl) (Steps.refl _) (argsL := [(.ref r99)]) (rest := []) (lenOf own_pd_3 rfl) rfl (by show 2 * 0 + _ ≤ _; exact Nat.le_of_eq rfl) (hb hby at_111) (fun _ _ => ⟨rfl, (rfl : T99.heap = T99.heap), (by decide : 2 + 0 ≤ _), (by decide : 5 + 0 ≤ _)⟩)
        dsimp only [Pt.U, Pt.locs, Pt.cells, Pt.slots] at X101 l101 y101 z101 st101 hQ101
        subst l101 y101 z101
        obtain ⟨rfl, N101q, eh101⟩ := hQ101
        have N101 := Fr.app N99 N101q
        refine own_go (B := T101.setTop (mkF m 114 #[.val (.long p1), .second, .val (.long p2), .second, .val (.int p3), .val (.int p4), .val (.int p5), .val (.int p6), .val (.long ta), .second, .val (.long tb), .second, .val (.int ya), .val (.int da), .val (.int yb), .val (.int db), .val (.int (0 : Int32)), .val (.int (1 : Int32)), .val (.ref b91), .val (.ref r99), .unset] [(.int (0 : Int32))])) (fun t k => st101.trans k) ?_
        refine own_go (B := T101.setTop (mkF m 117 #[.val (.long p1), .second, .val (.long p2), .second, .val (.int p3), .val (.int p4), .val (.int p5), .val (.int p6), .val (.long ta), .second, .val (.long tb), .second, .val (.int ya), .val (.int da), .val (.int yb), .val (.int db), .val (.int (0 : Int32)), .val (.int (1 : Int32)), .val (.ref b91), .val (.ref r99), .unset] [])) (fun t k => XS.ifNo X101.here hx rfl (hb hby at_114) rfl ((if0 _ _).trans (teq (by decide : (0 : Int32) = (0 : Int32))).2) k) ?_
        refine own_go (B := T101.setTop (mkF m 118 #[.val (.long p1), .second, .val (.long p2), .second, .val (.int p3), .val (.int p4), .val (.int p5), .val (.int p6), .val (.long ta), .second, .val (.long tb), .second, .val (.int ya), .val (.int da), .val (.int yb), .val (.int db), .val (.int (0 : Int32)), .val (.int (1 : Int32)), .val (.ref b91), .val (.ref r99), .unset] [(.int (1 : Int32))])) (fun t k => XS.iconst X101.here hx rfl (hb hby at_117) k) ?_
        refine own_go (B := T101.setTop (mkF m 122 #[.val (.long p1), .second, .val (.long p2), .second, .val (.int p3), .val (.int p4), .val (.int p5), .val (.int p6), .val (.long ta), .second, .val (.long tb), .second, .val (.int ya), .val (.int da), .val (.int yb), .val (.int db), .val (.int (0 : Int32)), .val (.int (1 : Int32)), .val (.ref b91), .val (.ref r99), .unset] [(.int (1 : Int32))])) (fun t k => XS.goto X101.here hx rfl (pc0 := 118) (pc' := 122) rfl (hb hby at_118) (by decide) (by decide) k) ?_
        obtain ⟨fs, hr, hrun, hended, hW, hsame⟩ := X101.leave (v := some (.int (1 : Int32))) (fun h => by rw [Bd.returns] at h; cases h)
        refine ⟨_, _, retN X101 hx (t := .boolean) Bd.returns (by simp) (hb hby at_122) hr, hK _ _ ⟨hrun, hended, _, _, rfl, ?_, ⟨_, rfl⟩, hW, hsame.mono (by decide) (by decide)⟩⟩
        show own_Q_law Z p1 p2 p3 p4 p5 p6 w_cache cl h0 n0 _ T101.heap _
        rw [eh101]
        exact ⟨rfl, N101⟩
    · refine own_go (B := s₁.setTop (mkF m 65 #[.val (.long p1), .second, .val (.long p2), .second, .val (.int p3), .val (.int p4), .val (.int p5), .val (.int p6), .val (.long ta), .second, .val (.long tb), .second, .val (.int ya), .val (.int da), .val (.int yb), .val (.int db), .val (.int (0 : Int32)), .unset, .unset, .unset, .unset] [])) (fun t k => XS.ifYes X0.here hx rfl (pc0 := 58) (pc' := 65) rfl (hb hby at_58) rfl ((if0 _ _).trans (flt (fun q => hc58_90 ((lw_lt p2 (0 : Int64)).mp q))).2.1) (by decide) (by decide) k) ?_
      refine own_go (B := s₁.setTop (mkF m 66 #[.val (.long p1), .second, .val (.long p2), .second, .val (.int p3), .val (.int p4), .val (.int p5), .val (.int p6), .val (.long ta), .second, .val (.long tb), .second, .val (.int ya), .val (.int da), .val (.int yb), .val (.int db), .val (.int (0 : Int32)), .unset, .unset, .unset, .unset] [(.int (0 : Int32))])) (fun t k => XS.iconst X0.here hx rfl (hb hby at_65) k) ?_
      refine own_go (B := s₁.setTop (mkF m 68 #[.val (.long p1), .second, .val (.long p2), .second, .val (.int p3), .val (.int p4), .val (.int p5), .val (.int p6), .val (.long ta), .second, .val (.long tb), .second, .val (.int ya), .val (.int da), .val (.int yb), .val (.int db), .val (.int (0 : Int32)), .val (.int (0 : Int32)), .unset, .unset, .unset] [])) (fun t k => XS.istore X0.here hx rfl (hb hby at_66) rfl (l' := #[.val (.long p1), .second, .val (.long p2), .second, .val (.int p3), .val (.int p4), .val (.int p5), .val (.int p6), .val (.long ta), .second, .val (.long tb), .second, .val (.int ya), .val (.int da), .val (.int yb), .val (.int db), .val (.int (0 : Int32)), .val (.int (0 : Int32)), .unset, .unset, .unset]) rfl k) ?_
      obtain ⟨T104, h104, X104, e104, E104, A104, D104, -, st104⟩ := newO X0 hx hZ hown (hw _ (List.mem_of_getElem? (i := 2) rfl)) (hw _ (List.mem_of_getElem? (i := 3) rfl)) (hw _ (List.mem_of_getElem? (i := 4) rfl)) e0 (g := (mkF m 68 #[.val (.long p1), .second, .val (.long p2), .second, .val (.int p3), .val (.int p4), .val (.int p5), .val (.int p6), .val (.long ta), .second, .val (.long tb), .second, .val (.int ya), .val (.int da), .val (.int yb), .val (.int db), .val (.int (0 : Int32)), .val (.int (0 : Int32)), .unset, .unset, .unset] [])) rfl (hb hby at_68) (by decide) (by decide)
      obtain ⟨b104, g104⟩ : ∃ z, z = h0.size := ⟨_, rfl⟩
      rw [← g104] at A104 D104 st104
      have g_b104 : n0 ≤ b104 := Nat.le_trans (own_n0 O0) (Nat.le_of_eq g104.symm)
      have O104 := O0.ext E104
      have F104_13 : Fld Z h104 b104 "com/example/helm_of_panes/helmofpanes/input/InputEvent" "timeMicros" "J" (.long (0 : Int64)) := D104 (Or.inr (hw _ (List.mem_of_getElem? (i := 13) rfl))) (ty := .long) (by decide)
      have F104_15 : Fld Z h104 b104 "com/example/helm_of_panes/helmofpanes/input/InputEvent" "type" "I" (.int (0 : Int32)) := D104 (Or.inr (hw _ (List.mem_of_getElem? (i := 15) rfl))) (ty := .int) (by decide)
      have F104_17 : Fld Z h104 b104 "com/example/helm_of_panes/helmofpanes/input/InputEvent" "code" "I" (.int (0 : Int32)) := D104 (Or.inr (hw _ (List.mem_of_getElem? (i := 17) rfl))) (ty := .int) (by decide)
      have F104_19 : Fld Z h104 b104 "com/example/helm_of_panes/helmofpanes/input/InputEvent" "value" "I" (.int (0 : Int32)) := D104 (Or.inr (hw _ (List.mem_of_getElem? (i := 19) rfl))) (ty := .int) (by decide)
      refine own_go (B := T104.setTop (mkF m 71 #[.val (.long p1), .second, .val (.long p2), .second, .val (.int p3), .val (.int p4), .val (.int p5), .val (.int p6), .val (.long ta), .second, .val (.long tb), .second, .val (.int ya), .val (.int da), .val (.int yb), .val (.int db), .val (.int (0 : Int32)), .val (.int (0 : Int32)), .unset, .unset, .unset] [(.ref b104)])) (fun t k => st104 _ k) ?_
      refine own_go (B := T104.setTop (mkF m 72 #[.val (.long p1), .second, .val (.long p2), .second, .val (.int p3), .val (.int p4), .val (.int p5), .val (.int p6), .val (.long ta), .second, .val (.long tb), .second, .val (.int ya), .val (.int da), .val (.int yb), .val (.int db), .val (.int (0 : Int32)), .val (.int (0 : Int32)), .unset, .unset, .unset] [(.ref b104), (.ref b104)])) (fun t k => XS.dup X104.here hx rfl (hb hby at_71) rfl rfl k) ?_
      refine own_go (B := T104.setTop (mkF m 74 #[.val (.long p1), .second, .val (.long p2), .second, .val (.int p3), .val (.int p4), .val (.int p5), .val (.int p6), .val (.long ta), .second, .val (.long tb), .second, .val (.int ya), .val (.int da), .val (.int yb), .val (.int db), .val (.int (0 : Int32)), .val (.int (0 : Int32)), .unset, .unset, .unset] [(.long ta), (.ref b104), (.ref b104)])) (fun t k => XS.lload X104.here hx rfl (hb hby at_72) rfl k) ?_
      refine own_go (B := T104.setTop (mkF m 76 #[.val (.long p1), .second, .val (.long p2), .second, .val (.int p3), .val (.int p4), .val (.int p5), .val (.int p6), .val (.long ta), .second, .val (.long tb), .second, .val (.int ya), .val (.int da), .val (.int yb), .val (.int db), .val (.int (0 : Int32)), .val (.int (0 : Int32)), .unset, .unset, .unset] [(.int ya), (.long ta), (.ref b104), (.ref b104)])) (fun t k => XS.iload X104.here hx rfl (hb hby at_74) rfl k) ?_
      refine own_go (B := T104.setTop (mkF m 78 #[.val (.long p1), .second, .val (.long p2), .second, .val (.int p3), .val (.int p4), .val (.int p5), .val (.int p6), .val (.long ta), .second, .val (.long tb), .second, .val (.int ya), .val (.int da), .val (.int yb), .val (.int db), .val (.int (0 : Int32)), .val (.int (0 : Int32)), .unset, .unset, .unset] [(.int da), (.int ya), (.long ta), (.ref b104), (.ref b104)])) (fun t k => XS.iload X104.here hx rfl (hb hby at_76) rfl k) ?_
      refine own_go (B := T104.setTop (mkF m 80 #[.val (.long p1), .second, .val (.long p2), .second, .val (.int p3), .val (.int p4), .val (.int p5), .val (.int p6), .val (.long ta), .second, .val (.long tb), .second, .val (.int ya), .val (.int da), .val (.int yb), .val (.int db), .val (.int (0 : Int32)), .val (.int (0 : Int32)), .unset, .unset, .unset] [(.int p5), (.int da), (.int ya), (.long ta), (.ref b104), (.ref b104)])) (fun t k => XS.iload X104.here hx rfl (hb hby at_78) rfl k) ?_
      obtain ⟨_, _, ⟨T105, L105, k105, n105⟩, -, X105, ⟨Lc105, hQ105, l105, y105, z105⟩, st105⟩ := X104.specialBack hx (y := (⟨"com/example/helm_of_panes/helmofpanes/input/InputEvent", "<init>", "(JIII)V"⟩ : MethodName)) rfl hown (mvT hZ (hw _ (List.mem_of_getElem? (i := 5) rfl))) (mvT hZ (hw _ (List.mem_of_getElem? (i := 6) rfl))) (mvT hZ (hw _ (List.mem_of_getElem? (i := 7) rfl))) (by decide) (backOf (W := 1) (own_rm_iinit l Z a0 hw [] b104 ta ya da p5 h104 n0 O104 A104 g_b104 F104_13 F104_15 F104_17 F104_19 Rta.1 Rya.1 Rya.2 Rda.1 Rda.2) hZ (hw _ (List.mem_of_getElem? (i := 7) rfl)) (hw _ (List.mem_of_getElem? (i := 4) rfl)) (by decide) (by decide)) (g := (mkF m 80 #[.val (.long p1), .second, .val (.long p2), .second, .val (.int p3), .val (.int p4), .val (.int p5), .val (.int p6), .val (.long ta), .second, .val (.long tb), .second, .val (.int ya), .val (.int da), .val (.int yb), .val (.int db), .val (.int (0 : Int32)), .val (.int (0 : Int32)), .unset, .unset, .unset] [(.int p5), (.int da), (.int ya), (.long ta), (.ref b104), (.ref b104)])) rfl (by rw [hml]; rfl) (Steps.refl _) (a := b104) (argsL := [(.long ta), (.int ya), (.int da), (.int p5)]) (rest := [(.ref b104)]) (lenOf own_pd_2 rfl) rfl (by show 2 * 0 + _ ≤ _; exact Nat.le_of_eq rfl) (hb hby at_80) (fun _ _ => ⟨rfl, e104, (by decide : 1 + 0 ≤ _), (by decide : 4 + 0 ≤ _)⟩)
      dsimp only [Pt.U, Pt.locs, Pt.cells, Pt.slots] at X105 l105 y105 z105 st105 hQ105
      subst l105 y105 z105
      obtain ⟨rfl, N105q, Kc105, En105, Fn105_0, Fn105_1, Fn105_2, Fn105_3⟩ := hQ105
      have O105 := O104.keep Kc105 (allS g_b104 all0)
      have N105 := Fr.app N0 N105q
      refine own_go (B := T105.setTop (mkF m 83 #[.val (.long p1), .second, .val (.long p2), .second, .val (.int p3), .val (.int p4), .val (.int p5), .val (.int p6), .val (.long ta), .second, .val (.long tb), .second, .val (.int ya), .val (.int da), .val (.int yb), .val (.int db), .val (.int (0 : Int32)), .val (.int (0 : Int32)), .unset, .unset, .unset] [(.ref b104)])) (fun t k => st105.trans k) ?_
      refine own_go (B := T105.setTop (mkF m 85 #[.val (.long p1), .second, .val (.long p2), .second, .val (.int p3), .val (.int p4), .val (.int p5), .val (.int p6), .val (.long ta), .second, .val (.long tb), .second, .val (.int ya), .val (.int da), .val (.int yb), .val (.int db), .val (.int (0 : Int32)), .val (.int (0 : Int32)), .val (.ref b104), .unset, .unset] [])) (fun t k => XS.astore X105.here hx rfl (hb hby at_83) rfl rfl (l' := #[.val (.long p1), .second, .val (.long p2), .second, .val (.int p3), .val (.int p4), .val (.int p5), .val (.int p6), .val (.long ta), .second, .val (.long tb), .second, .val (.int ya), .val (.int da), .val (.int yb), .val (.int db), .val (.int (0 : Int32)), .val (.int (0 : Int32)), .val (.ref b104), .unset, .unset]) rfl k) ?_
      refine own_go (B := T105.setTop (mkF m 87 #[.val (.long p1), .second, .val (.long p2), .second, .val (.int p3), .val (.int p4), .val (.int p5), .val (.int p6), .val (.long ta), .second, .val (.long tb), .second, .val (.int ya), .val (.int da), .val (.int yb), .val (.int db), .val (.int (0 : Int32)), .val (.int (0 : Int32)), .val (.ref b104), .unset, .unset] [(.int (0 : Int32))])) (fun t k => XS.iload X105.here hx rfl (hb hby at_85) rfl k) ?_
      refine own_go (B := T105.setTop (mkF m 123 #[.val (.long p1), .second, .val (.long p2), .second, .val (.int p3), .val (.int p4), .val (.int p5), .val (.int p6), .val (.long ta), .second, .val (.long tb), .second, .val (.int ya), .val (.int da), .val (.int yb), .val (.int db), .val (.int (0 : Int32)), .val (.int (0 : Int32)), .val (.ref b104), .unset, .unset] [])) (fun t k => XS.ifYes X105.here hx rfl (pc0 := 87) (pc' := 123) rfl (hb hby at_87) rfl ((if0 _ _).trans (teq (by decide : (0 : Int32) = (0 : Int32))).1) (by decide) (by decide) k) ?_
      refine own_go (B := T105.setTop (mkF m 125 #[.val (.long p1), .second, .val (.long p2), .second, .val (.int p3), .val (.int p4), .val (.int p5), .val (.int p6), .val (.long ta), .second, .val (.long tb), .second, .val (.int ya), .val (.int da), .val (.int yb), .val (.int db), .val (.int (0 : Int32)), .val (.int (0 : Int32)), .val (.ref b104), .unset, .unset] [(.int (0 : Int32))])) (fun t k => XS.iload X105.here hx rfl (hb hby at_123) rfl k) ?_
      refine own_go (B := T105.setTop (mkF m 136 #[.val (.long p1), .second, .val (.long p2), .second, .val (.int p3), .val (.int p4), .val (.int p5), .val (.int p6), .val (.long ta), .second, .val (.long tb), .second, .val (.int ya), .val (.int da), .val (.int yb), .val (.int db), .val (.int (0 : Int32)), .val (.int (0 : Int32)), .val (.ref b104), .unset, .unset] [])) (fun t k => XS.ifYes X105.here hx rfl (pc0 := 125) (pc' := 136) rfl (hb hby at_125) rfl ((if0 _ _).trans (teq (by decide : (0 : Int32) = (0 : Int32))).1) (by decide) (by decide) k) ?_
      obtain ⟨T108, h108, X108, e108, E108, A108, D108, -, st108⟩ := newO X105 hx hZ hown (hw _ (List.mem_of_getElem? (i := 2) rfl)) (hw _ (List.mem_of_getElem? (i := 3) rfl)) (hw _ (List.mem_of_getElem? (i := 4) rfl)) (rfl : T105.heap = T105.heap) (g := (mkF m 136 #[.val (.long p1), .second, .val (.long p2), .second, .val (.int p3), .val (.int p4), .val (.int p5), .val (.int p6), .val (.long ta), .second, .val (.long tb), .second, .val (.int ya), .val (.int da), .val (.int yb), .val (.int db), .val (.int (0 : Int32)), .val (.int (0 : Int32)), .val (.ref b104), .unset, .unset] [])) rfl (hb hby at_136) (by decide) (by decide)
      obtain ⟨b108, g108⟩ : ∃ z, z = T105.heap.size := ⟨_, rfl⟩
      rw [← g108] at A108 D108 st108
      have f109 := (A104.keep Kc105)
      have lt_b104_108 := f109.lt
      have g_b108 : n0 ≤ b108 := Nat.le_trans (own_n0 O105) (Nat.le_of_eq g108.symm)
      have O108 := O105.ext E108
      have F108_13 : Fld Z h108 b108 "com/example/helm_of_panes/helmofpanes/input/InputEvent" "timeMicros" "J" (.long (0 : Int64)) := D108 (Or.inr (hw _ (List.mem_of_getElem? (i := 13) rfl))) (ty := .long) (by decide)
      have F108_15 : Fld Z h108 b108 "com/example/helm_of_panes/helmofpanes/input/InputEvent" "type" "I" (.int (0 : Int32)) := D108 (Or.inr (hw _ (List.mem_of_getElem? (i := 15) rfl))) (ty := .int) (by decide)
      have F108_17 : Fld Z h108 b108 "com/example/helm_of_panes/helmofpanes/input/InputEvent" "code" "I" (.int (0 : Int32)) := D108 (Or.inr (hw _ (List.mem_of_getElem? (i := 17) rfl))) (ty := .int) (by decide)
      have F108_19 : Fld Z h108 b108 "com/example/helm_of_panes/helmofpanes/input/InputEvent" "value" "I" (.int (0 : Int32)) := D108 (Or.inr (hw _ (List.mem_of_getElem? (i := 19) rfl))) (ty := .int) (by decide)
      refine own_go (B := T108.setTop (mkF m 139 #[.val (.long p1), .second, .val (.long p2), .second, .val (.int p3), .val (.int p4), .val (.int p5), .val (.int p6), .val (.long ta), .second, .val (.long tb), .second, .val (.int ya), .val (.int da), .val (.int yb), .val (.int db), .val (.int (0 : Int32)), .val (.int (0 : Int32)), .val (.ref b104), .unset, .unset] [(.ref b108)])) (fun t k => st108 _ k) ?_
      refine own_go (B := T108.setTop (mkF m 140 #[.val (.long p1), .second, .val (.long p2), .second, .val (.int p3), .val (.int p4), .val (.int p5), .val (.int p6), .val (.long ta), .second, .val (.long tb), .second, .val (.int ya), .val (.int da), .val (.int yb), .val (.int db), .val (.int (0 : Int32)), .val (.int (0 : Int32)), .val (.ref b104), .unset, .unset] [(.ref b108), (.ref b108)])) (fun t k => XS.dup X108.here hx rfl (hb hby at_139) rfl rfl k) ?_
      refine own_go (B := T108.setTop (mkF m 142 #[.val (.long p1), .second, .val (.long p2), .second, .val (.int p3), .val (.int p4), .val (.int p5), .val (.int p6), .val (.long ta), .second, .val (.long tb), .second, .val (.int ya), .val (.int da), .val (.int yb), .val (.int db), .val (.int (0 : Int32)), .val (.int (0 : Int32)), .val (.ref b104), .unset, .unset] [(.long tb), (.ref b108), (.ref b108)])) (fun t k => XS.lload X108.here hx rfl (hb hby at_140) rfl k) ?_
      refine own_go (B := T108.setTop (mkF m 144 #[.val (.long p1), .second, .val (.long p2), .second, .val (.int p3), .val (.int p4), .val (.int p5), .val (.int p6), .val (.long ta), .second, .val (.long tb), .second, .val (.int ya), .val (.int da), .val (.int yb), .val (.int db), .val (.int (0 : Int32)), .val (.int (0 : Int32)), .val (.ref b104), .unset, .unset] [(.int yb), (.long tb), (.ref b108), (.ref b108)])) (fun t k => XS.iload X108.here hx rfl (hb hby at_142) rfl k) ?_
      refine own_go (B := T108.setTop (mkF m 146 #[.val (.long p1), .second, .val (.long p2), .second, .val (.int p3), .val (.int p4), .val (.int p5), .val (.int p6), .val (.long ta), .second, .val (.long tb), .second, .val (.int ya), .val (.int da), .val (.int yb), .val (.int db), .val (.int (0 : Int32)), .val (.int (0 : Int32)), .val (.ref b104), .unset, .unset] [(.int db), (.int yb), (.long tb), (.ref b108), (.ref b108)])) (fun t k => XS.iload X108.here hx rfl (hb hby at_144) rfl k) ?_
      refine own_go (B := T108.setTop (mkF m 148 #[.val (.long p1), .second, .val (.long p2), .second, .val (.int p3), .val (.int p4), .val (.int p5), .val (.int p6), .val (.long ta), .second, .val (.long tb), .second, .val (.int ya), .val (.int da), .val (.int yb), .val (.int db), .val (.int (0 : Int32)), .val (.int (0 : Int32)), .val (.ref b104), .unset, .unset] [(.int p6), (.int db), (.int yb), (.long tb), (.ref b108), (.ref b108)])) (fun t k => XS.iload X108.here hx rfl (hb hby at_146) rfl k) ?_
      obtain ⟨_, _, ⟨T110, L110, k110, n110⟩, -, X110, ⟨Lc110, hQ110, l110, y110, z110⟩, st110⟩ := X108.specialBack hx (y := (⟨"com/example/helm_of_panes/helmofpanes/input/InputEvent", "<init>", "(JIII)V"⟩ : MethodName)) rfl hown (mvT hZ (hw _ (List.mem_of_getElem? (i := 5) rfl))) (mvT hZ (hw _ (List.mem_of_getElem? (i := 6) rfl))) (mvT hZ (hw _ (List.mem_of_getElem? (i := 7) rfl))) (by decide) (backOf (W := 1) (own_rm_iinit l Z a0 hw [] b108 tb yb db p6 h108 n0 O108 A108 g_b108 F108_13 F108_15 F108_17 F108_19 Rtb.1 Ryb.1 Ryb.2 Rdb.1 Rdb.2) hZ (hw _ (List.mem_of_getElem? (i := 7) rfl)) (hw _ (List.mem_of_getElem? (i := 4) rfl)) (by decide) (by decide)) (g := (mkF m 148 #[.val (.long p1), .second, .val (.long p2), .second, .val (.int p3), .val (.int p4), .val (.int p5), .val (.int p6), .val (.long ta), .second, .val (.long tb), .second, .val (.int ya), .val (.int da), .val (.int yb), .val (.int db), .val (.int (0 : Int32)), .val (.int (0 : Int32)), .val (.ref b104), .unset, .unset] [(.int p6), (.int db), (.int yb), (.long tb), (.ref b108), (.ref b108)])) rfl (by rw [hml]; rfl) (Steps.refl _) (a := b108) (argsL := [(.long tb), (.int yb), (.int db), (.int p6)]) (rest := [(.ref b108)]) (lenOf own_pd_2 rfl) rfl (by show 2 * 0 + _ ≤ _; exact Nat.le_of_eq rfl) (hb hby at_148) (fun _ _ => ⟨rfl, e108, (by decide : 2 + 0 ≤ _), (by decide : 8 + 0 ≤ _)⟩)
      dsimp only [Pt.U, Pt.locs, Pt.cells, Pt.slots] at X110 l110 y110 z110 st110 hQ110
      subst l110 y110 z110
      obtain ⟨rfl, N110q, Kc110, En110, Fn110_0, Fn110_1, Fn110_2, Fn110_3⟩ := hQ110
      have O110 := O108.keep Kc110 (allS g_b108 all0)
      have N110 := Fr.app N105 N110q
      refine own_go (B := T110.setTop (mkF m 151 #[.val (.long p1), .second, .val (.long p2), .second, .val (.int p3), .val (.int p4), .val (.int p5), .val (.int p6), .val (.long ta), .second, .val (.long tb), .second, .val (.int ya), .val (.int da), .val (.int yb), .val (.int db), .val (.int (0 : Int32)), .val (.int (0 : Int32)), .val (.ref b104), .unset, .unset] [(.ref b108)])) (fun t k => st110.trans k) ?_
      refine own_go (B := T110.setTop (mkF m 153 #[.val (.long p1), .second, .val (.long p2), .second, .val (.int p3), .val (.int p4), .val (.int p5), .val (.int p6), .val (.long ta), .second, .val (.long tb), .second, .val (.int ya), .val (.int da), .val (.int yb), .val (.int db), .val (.int (0 : Int32)), .val (.int (0 : Int32)), .val (.ref b104), .val (.ref b108), .unset] [])) (fun t k => XS.astore X110.here hx rfl (hb hby at_151) rfl rfl (l' := #[.val (.long p1), .second, .val (.long p2), .second, .val (.int p3), .val (.int p4), .val (.int p5), .val (.int p6), .val (.long ta), .second, .val (.long tb), .second, .val (.int ya), .val (.int da), .val (.int yb), .val (.int db), .val (.int (0 : Int32)), .val (.int (0 : Int32)), .val (.ref b104), .val (.ref b108), .unset]) rfl k) ?_
      refine own_go (B := T110.setTop (mkF m 155 #[.val (.long p1), .second, .val (.long p2), .second, .val (.int p3), .val (.int p4), .val (.int p5), .val (.int p6), .val (.long ta), .second, .val (.long tb), .second, .val (.int ya), .val (.int da), .val (.int yb), .val (.int db), .val (.int (0 : Int32)), .val (.int (0 : Int32)), .val (.ref b104), .val (.ref b108), .unset] [(.long ta)])) (fun t k => XS.lload X110.here hx rfl (hb hby at_153) rfl k) ?_
      refine own_go (B := T110.setTop (mkF m 157 #[.val (.long p1), .second, .val (.long p2), .second, .val (.int p3), .val (.int p4), .val (.int p5), .val (.int p6), .val (.long ta), .second, .val (.long tb), .second, .val (.int ya), .val (.int da), .val (.int yb), .val (.int db), .val (.int (0 : Int32)), .val (.int (0 : Int32)), .val (.ref b104), .val (.ref b108), .unset] [(.long tb), (.long ta)])) (fun t k => XS.lload X110.here hx rfl (hb hby at_155) rfl k) ?_
      refine own_go (B := T110.setTop (mkF m 158 #[.val (.long p1), .second, .val (.long p2), .second, .val (.int p3), .val (.int p4), .val (.int p5), .val (.int p6), .val (.long ta), .second, .val (.long tb), .second, .val (.int ya), .val (.int da), .val (.int yb), .val (.int db), .val (.int (0 : Int32)), .val (.int (0 : Int32)), .val (.ref b104), .val (.ref b108), .unset] [(.int (lcmpW ta tb))])) (fun t k => XS.lcmp X110.here hx rfl (hb hby at_157) rfl k) ?_
      by_cases hc158_111 : ta = tb
      · refine own_go (B := T110.setTop (mkF m 161 #[.val (.long p1), .second, .val (.long p2), .second, .val (.int p3), .val (.int p4), .val (.int p5), .val (.int p6), .val (.long ta), .second, .val (.long tb), .second, .val (.int ya), .val (.int da), .val (.int yb), .val (.int db), .val (.int (0 : Int32)), .val (.int (0 : Int32)), .val (.ref b104), .val (.ref b108), .unset] [])) (fun t k => XS.ifNo X110.here hx rfl (hb hby at_158) rfl ((if0 _ _).trans (teq ((lw_eq ta tb).mpr hc158_111)).2) k) ?_
        refine own_go (B := T110.setTop (mkF m 163 #[.val (.long p1), .second, .val (.long p2), .second, .val (.int p3), .val (.int p4), .val (.int p5), .val (.int p6), .val (.long ta), .second, .val (.long tb), .second, .val (.int ya), .val (.int da), .val (.int yb), .val (.int db), .val (.int (0 : Int32)), .val (.int (0 : Int32)), .val (.ref b104), .val (.ref b108), .unset] [(.int ya)])) (fun t k => XS.iload X110.here hx rfl (hb hby at_161) rfl k) ?_
        refine own_go (B := T110.setTop (mkF m 165 #[.val (.long p1), .second, .val (.long p2), .second, .val (.int p3), .val (.int p4), .val (.int p5), .val (.int p6), .val (.long ta), .second, .val (.long tb), .second, .val (.int ya), .val (.int da), .val (.int yb), .val (.int db), .val (.int (0 : Int32)), .val (.int (0 : Int32)), .val (.ref b104), .val (.ref b108), .unset] [(.int yb), (.int ya)])) (fun t k => XS.iload X110.here hx rfl (hb hby at_163) rfl k) ?_
        by_cases hc165_112 : ya = yb
        · refine own_go (B := T110.setTop (mkF m 168 #[.val (.long p1), .second, .val (.long p2), .second, .val (.int p3), .val (.int p4), .val (.int p5), .val (.int p6), .val (.long ta), .second, .val (.long tb), .second, .val (.int ya), .val (.int da), .val (.int yb), .val (.int db), .val (.int (0 : Int32)), .val (.int (0 : Int32)), .val (.ref b104), .val (.ref b108), .unset] [])) (fun t k => XS.icmpNo X110.here hx rfl (hb hby at_165) rfl (teq hc165_112).2 k) ?_
          refine own_go (B := T110.setTop (mkF m 170 #[.val (.long p1), .second, .val (.long p2), .second, .val (.int p3), .val (.int p4), .val (.int p5), .val (.int p6), .val (.long ta), .second, .val (.long tb), .second, .val (.int ya), .val (.int da), .val (.int yb), .val (.int db), .val (.int (0 : Int32)), .val (.int (0 : Int32)), .val (.ref b104), .val (.ref b108), .unset] [(.int da)])) (fun t k => XS.iload X110.here hx rfl (hb hby at_168) rfl k) ?_
          refine own_go (B := T110.setTop (mkF m 172 #[.val (.long p1), .second, .val (.long p2), .second, .val (.int p3), .val (.int p4), .val (.int p5), .val (.int p6), .val (.long ta), .second, .val (.long tb), .second, .val (.int ya), .val (.int da), .val (.int yb), .val (.int db), .val (.int (0 : Int32)), .val (.int (0 : Int32)), .val (.ref b104), .val (.ref b108), .unset] [(.int db), (.int da)])) (fun t k => XS.iload X110.here hx rfl (hb hby at_170) rfl k) ?_
          by_cases hc172_113 : da = db
          · refine own_go (B := T110.setTop (mkF m 175 #[.val (.long p1), .second, .val (.long p2), .second, .val (.int p3), .val (.int p4), .val (.int p5), .val (.int p6), .val (.long ta), .second, .val (.long tb), .second, .val (.int ya), .val (.int da), .val (.int yb), .val (.int db), .val (.int (0 : Int32)), .val (.int (0 : Int32)), .val (.ref b104), .val (.ref b108), .unset] [])) (fun t k => XS.icmpNo X110.here hx rfl (hb hby at_172) rfl (teq hc172_113).2 k) ?_
            refine own_go (B := T110.setTop (mkF m 177 #[.val (.long p1), .second, .val (.long p2), .second, .val (.int p3), .val (.int p4), .val (.int p5), .val (.int p6), .val (.long ta), .second, .val (.long tb), .second, .val (.int ya), .val (.int da), .val (.int yb), .val (.int db), .val (.int (0 : Int32)), .val (.int (0 : Int32)), .val (.ref b104), .val (.ref b108), .unset] [(.int p5)])) (fun t k => XS.iload X110.here hx rfl (hb hby at_175) rfl k) ?_
            refine own_go (B := T110.setTop (mkF m 179 #[.val (.long p1), .second, .val (.long p2), .second, .val (.int p3), .val (.int p4), .val (.int p5), .val (.int p6), .val (.long ta), .second, .val (.long tb), .second, .val (.int ya), .val (.int da), .val (.int yb), .val (.int db), .val (.int (0 : Int32)), .val (.int (0 : Int32)), .val (.ref b104), .val (.ref b108), .unset] [(.int p6), (.int p5)])) (fun t k => XS.iload X110.here hx rfl (hb hby at_177) rfl k) ?_
            by_cases hc179_114 : p5 = p6
            · refine own_go (B := T110.setTop (mkF m 182 #[.val (.long p1), .second, .val (.long p2), .second, .val (.int p3), .val (.int p4), .val (.int p5), .val (.int p6), .val (.long ta), .second, .val (.long tb), .second, .val (.int ya), .val (.int da), .val (.int yb), .val (.int db), .val (.int (0 : Int32)), .val (.int (0 : Int32)), .val (.ref b104), .val (.ref b108), .unset] [])) (fun t k => XS.icmpNo X110.here hx rfl (hb hby at_179) rfl (teq hc179_114).2 k) ?_
              refine own_go (B := T110.setTop (mkF m 183 #[.val (.long p1), .second, .val (.long p2), .second, .val (.int p3), .val (.int p4), .val (.int p5), .val (.int p6), .val (.long ta), .second, .val (.long tb), .second, .val (.int ya), .val (.int da), .val (.int yb), .val (.int db), .val (.int (0 : Int32)), .val (.int (0 : Int32)), .val (.ref b104), .val (.ref b108), .unset] [(.int (1 : Int32))])) (fun t k => XS.iconst X110.here hx rfl (hb hby at_182) k) ?_
              refine own_go (B := T110.setTop (mkF m 187 #[.val (.long p1), .second, .val (.long p2), .second, .val (.int p3), .val (.int p4), .val (.int p5), .val (.int p6), .val (.long ta), .second, .val (.long tb), .second, .val (.int ya), .val (.int da), .val (.int yb), .val (.int db), .val (.int (0 : Int32)), .val (.int (0 : Int32)), .val (.ref b104), .val (.ref b108), .unset] [(.int (1 : Int32))])) (fun t k => XS.goto X110.here hx rfl (pc0 := 183) (pc' := 187) rfl (hb hby at_183) (by decide) (by decide) k) ?_
              refine own_go (B := T110.setTop (mkF m 189 #[.val (.long p1), .second, .val (.long p2), .second, .val (.int p3), .val (.int p4), .val (.int p5), .val (.int p6), .val (.long ta), .second, .val (.long tb), .second, .val (.int ya), .val (.int da), .val (.int yb), .val (.int db), .val (.int (0 : Int32)), .val (.int (0 : Int32)), .val (.ref b104), .val (.ref b108), .val (.int (1 : Int32))] [])) (fun t k => XS.istore X110.here hx rfl (hb hby at_187) rfl (l' := #[.val (.long p1), .second, .val (.long p2), .second, .val (.int p3), .val (.int p4), .val (.int p5), .val (.int p6), .val (.long ta), .second, .val (.long tb), .second, .val (.int ya), .val (.int da), .val (.int yb), .val (.int db), .val (.int (0 : Int32)), .val (.int (0 : Int32)), .val (.ref b104), .val (.ref b108), .val (.int (1 : Int32))]) rfl k) ?_
              refine own_go (B := T110.setTop (mkF m 191 #[.val (.long p1), .second, .val (.long p2), .second, .val (.int p3), .val (.int p4), .val (.int p5), .val (.int p6), .val (.long ta), .second, .val (.long tb), .second, .val (.int ya), .val (.int da), .val (.int yb), .val (.int db), .val (.int (0 : Int32)), .val (.int (0 : Int32)), .val (.ref b104), .val (.ref b108), .val (.int (1 : Int32))] [(.ref b104)])) (fun t k => XS.aload X110.here hx rfl (hb hby at_189) rfl rfl k) ?_
              refine own_go (B := T110.setTop (mkF m 193 #[.val (.long p1), .second, .val (.long p2), .second, .val (.int p3), .val (.int p4), .val (.int p5), .val (.int p6), .val (.long ta), .second, .val (.long tb), .second, .val (.int ya), .val (.int da), .val (.int yb), .val (.int db), .val (.int (0 : Int32)), .val (.int (0 : Int32)), .val (.ref b104), .val (.ref b108), .val (.int (1 : Int32))] [(.ref b108), (.ref b104)])) (fun t k => XS.aload X110.here hx rfl (hb hby at_191) rfl rfl k) ?_
              have f115 := ((Fn105_0.ext E108).keep Kc110 (ninS (Nat.ne_of_lt (Nat.lt_of_lt_of_le lt_b104_108 (Nat.le_of_eq g108.symm))) nin0))
              have f116 := ((Fn105_1.ext E108).keep Kc110 (ninS (Nat.ne_of_lt (Nat.lt_of_lt_of_le lt_b104_108 (Nat.le_of_eq g108.symm))) nin0))
              have f117 := ((Fn105_2.ext E108).keep Kc110 (ninS (Nat.ne_of_lt (Nat.lt_of_lt_of_le lt_b104_108 (Nat.le_of_eq g108.symm))) nin0))
              have f118 := ((Fn105_3.ext E108).keep Kc110 (ninS (Nat.ne_of_lt (Nat.lt_of_lt_of_le lt_b104_108 (Nat.le_of_eq g108.symm))) nin0))
              have f119 := (A108.keep Kc110)
              have f121 := ((f109.ext E108).keep Kc110)
              obtain ⟨cq120, kq120, q120a, q120b, q120c⟩ := isOf hZ (rfl : T110.heap = T110.heap) f121
              obtain ⟨_, _, ⟨T120, L120, k120, n120⟩, -, X120, ⟨Lc120, hQ120, l120, y120, z120⟩, st120⟩ := X110.virtualBack hx (y := (⟨"com/example/helm_of_panes/helmofpanes/input/InputEvent", "equals", "(Ljava/lang/Object;)Z"⟩ : MethodName)) (z := (⟨"com/example/helm_of_panes/helmofpanes/input/InputEvent", "equals", "(Ljava/lang/Object;)Z"⟩ : MethodName)) hown (mvT hZ (hw _ (List.mem_of_getElem? (i := 20) rfl))) (mvT hZ (hw _ (List.mem_of_getElem? (i := 21) rfl))) (notFace_of_selects (args := #[]) (mvT hZ (hw _ (List.mem_of_getElem? (i := 23) rfl)))) (mvT hZ (hw _ (List.mem_of_getElem? (i := 23) rfl))) (mvT hZ (hw _ (List.mem_of_getElem? (i := 22) rfl))) (by decide) (backOf (W := 0) (own_rm_eqP l Z a0 hw [] b104 b108 ta tb ya da p5 yb db p6 (1 : Int32) T110.heap n0 O110 (Nat.ne_of_lt (Nat.lt_of_lt_of_le lt_b104_108 (Nat.le_of_eq g108.symm))) f119 f115 f116 f117 f118 Fn110_0 Fn110_1 Fn110_2 Fn110_3 (by simp [hc158_111, hc165_112, hc172_113, hc179_114])) hZ (hw _ (List.mem_of_getElem? (i := 24) rfl)) (hw _ (List.mem_of_getElem? (i := 4) rfl)) (by decide) (by decide)) q120a q120c (g := (mkF m 193 #[.val (.long p1), .second, .val (.long p2), .second, .val (.int p3), .val (.int p4), .val (.int p5), .val (.int p6), .val (.long ta), .second, .val (.long tb), .second, .val (.int ya), .val (.int da), .val (.int yb), .val (.int db), .val (.int (0 : Int32)), .val (.int (0 : Int32)), .val (.ref b104), .val (.ref b108), .val (.int (1 : Int32))] [(.ref b108), (.ref b104)])) rfl (by rw [hml]; rfl) (Steps.refl _) (argsL := [(.ref b108)]) (rest := []) (lenOf own_pd_3 rfl) rfl (by show 2 * 0 + _ ≤ _; exact Nat.le_of_eq rfl) (hb hby at_193) (fun _ _ => ⟨rfl, (rfl : T110.heap = T110.heap), (by decide : 2 + 0 ≤ _), (by decide : 8 + 0 ≤ _)⟩)
              dsimp only [Pt.U, Pt.locs, Pt.cells, Pt.slots] at X120 l120 y120 z120 st120 hQ120
              subst l120 y120 z120
              obtain ⟨rfl, N120q, eh120⟩ := hQ120
              have N120 := Fr.app N110 N120q
              refine own_go (B := T120.setTop (mkF m 196 #[.val (.long p1), .second, .val (.long p2), .second, .val (.int p3), .val (.int p4), .val (.int p5), .val (.int p6), .val (.long ta), .second, .val (.long tb), .second, .val (.int ya), .val (.int da), .val (.int yb), .val (.int db), .val (.int (0 : Int32)), .val (.int (0 : Int32)), .val (.ref b104), .val (.ref b108), .val (.int (1 : Int32))] [(.int (1 : Int32))])) (fun t k => st120.trans k) ?_
              refine own_go (B := T120.setTop (mkF m 198 #[.val (.long p1), .second, .val (.long p2), .second, .val (.int p3), .val (.int p4), .val (.int p5), .val (.int p6), .val (.long ta), .second, .val (.long tb), .second, .val (.int ya), .val (.int da), .val (.int yb), .val (.int db), .val (.int (0 : Int32)), .val (.int (0 : Int32)), .val (.ref b104), .val (.ref b108), .val (.int (1 : Int32))] [(.int (1 : Int32)), (.int (1 : Int32))])) (fun t k => XS.iload X120.here hx rfl (hb hby at_196) rfl k) ?_
              refine own_go (B := T120.setTop (mkF m 201 #[.val (.long p1), .second, .val (.long p2), .second, .val (.int p3), .val (.int p4), .val (.int p5), .val (.int p6), .val (.long ta), .second, .val (.long tb), .second, .val (.int ya), .val (.int da), .val (.int yb), .val (.int db), .val (.int (0 : Int32)), .val (.int (0 : Int32)), .val (.ref b104), .val (.ref b108), .val (.int (1 : Int32))] [])) (fun t k => XS.icmpNo X120.here hx rfl (hb hby at_198) rfl (teq (by decide : (1 : Int32) = (1 : Int32))).2 k) ?_
              refine own_go (B := T120.setTop (mkF m 203 #[.val (.long p1), .second, .val (.long p2), .second, .val (.int p3), .val (.int p4), .val (.int p5), .val (.int p6), .val (.long ta), .second, .val (.long tb), .second, .val (.int ya), .val (.int da), .val (.int yb), .val (.int db), .val (.int (0 : Int32)), .val (.int (0 : Int32)), .val (.ref b104), .val (.ref b108), .val (.int (1 : Int32))] [(.ref b108)])) (fun t k => XS.aload X120.here hx rfl (hb hby at_201) rfl rfl k) ?_
              refine own_go (B := T120.setTop (mkF m 205 #[.val (.long p1), .second, .val (.long p2), .second, .val (.int p3), .val (.int p4), .val (.int p5), .val (.int p6), .val (.long ta), .second, .val (.long tb), .second, .val (.int ya), .val (.int da), .val (.int yb), .val (.int db), .val (.int (0 : Int32)), .val (.int (0 : Int32)), .val (.ref b104), .val (.ref b108), .val (.int (1 : Int32))] [(.ref b104), (.ref b108)])) (fun t k => XS.aload X120.here hx rfl (hb hby at_203) rfl rfl k) ?_
              obtain ⟨cq123, kq123, q123a, q123b, q123c⟩ := isOf hZ eh120 f119
              obtain ⟨_, _, ⟨T123, L123, k123, n123⟩, -, X123, ⟨Lc123, hQ123, l123, y123, z123⟩, st123⟩ := X120.virtualBack hx (y := (⟨"com/example/helm_of_panes/helmofpanes/input/InputEvent", "equals", "(Ljava/lang/Object;)Z"⟩ : MethodName)) (z := (⟨"com/example/helm_of_panes/helmofpanes/input/InputEvent", "equals", "(Ljava/lang/Object;)Z"⟩ : MethodName)) hown (mvT hZ (hw _ (List.mem_of_getElem? (i := 20) rfl))) (mvT hZ (hw _ (List.mem_of_getElem? (i := 21) rfl))) (notFace_of_selects (args := #[]) (mvT hZ (hw _ (List.mem_of_getElem? (i := 23) rfl)))) (mvT hZ (hw _ (List.mem_of_getElem? (i := 23) rfl))) (mvT hZ (hw _ (List.mem_of_getElem? (i := 22) rfl))) (by decide) (backOf (W := 0) (own_rm_eqP l Z a0 hw [] b108 b104 tb ta yb db p6 ya da p5 (1 : Int32) T110.heap n0 O110 (Ne.symm (Nat.ne_of_lt (Nat.lt_of_lt_of_le lt_b104_108 (Nat.le_of_eq g108.symm)))) f121 Fn110_0 Fn110_1 Fn110_2 Fn110_3 f115 f116 f117 f118 (by simp [(Eq.symm hc158_111), (Eq.symm hc165_112), (Eq.symm hc172_113), (Eq.symm hc179_114)])) hZ (hw _ (List.mem_of_getElem? (i := 24) rfl)) (hw _ (List.mem_of_getElem? (i := 4) rfl)) (by decide) (by decide)) q123a q123c (g := (mkF m 205 #[.val (.long p1), .second, .val (.long p2), .second, .val (.int p3), .val (.int p4), .val (.int p5), .val (.int p6), .val (.long ta), .second, .val (.long tb), .second, .val (.int ya), .val (.int da), .val (.int yb), .val (.int db), .val (.int (0 : Int32)), .val (.int (0 : Int32)), .val (.ref b104), .val (.ref b108), .val (.int (1 : Int32))] [(.ref b104), (.ref b108)])) rfl (by rw [hml]; rfl) (Steps.refl _) (argsL := [(.ref b104)]) (rest := []) (lenOf own_pd_3 rfl) rfl (by show 2 * 0 + _ ≤ _; exact Nat.le_of_eq rfl) (hb hby at_205) (fun _ _ => ⟨rfl, eh120, (by decide : 2 + 0 ≤ _), (by decide : 8 + 0 ≤ _)⟩)
              dsimp only [Pt.U, Pt.locs, Pt.cells, Pt.slots] at X123 l123 y123 z123 st123 hQ123
              subst l123 y123 z123
              obtain ⟨rfl, N123q, eh123⟩ := hQ123
              have N123 := Fr.app N120 N123q
              refine own_go (B := T123.setTop (mkF m 208 #[.val (.long p1), .second, .val (.long p2), .second, .val (.int p3), .val (.int p4), .val (.int p5), .val (.int p6), .val (.long ta), .second, .val (.long tb), .second, .val (.int ya), .val (.int da), .val (.int yb), .val (.int db), .val (.int (0 : Int32)), .val (.int (0 : Int32)), .val (.ref b104), .val (.ref b108), .val (.int (1 : Int32))] [(.int (1 : Int32))])) (fun t k => st123.trans k) ?_
              refine own_go (B := T123.setTop (mkF m 210 #[.val (.long p1), .second, .val (.long p2), .second, .val (.int p3), .val (.int p4), .val (.int p5), .val (.int p6), .val (.long ta), .second, .val (.long tb), .second, .val (.int ya), .val (.int da), .val (.int yb), .val (.int db), .val (.int (0 : Int32)), .val (.int (0 : Int32)), .val (.ref b104), .val (.ref b108), .val (.int (1 : Int32))] [(.int (1 : Int32)), (.int (1 : Int32))])) (fun t k => XS.iload X123.here hx rfl (hb hby at_208) rfl k) ?_
              refine own_go (B := T123.setTop (mkF m 213 #[.val (.long p1), .second, .val (.long p2), .second, .val (.int p3), .val (.int p4), .val (.int p5), .val (.int p6), .val (.long ta), .second, .val (.long tb), .second, .val (.int ya), .val (.int da), .val (.int yb), .val (.int db), .val (.int (0 : Int32)), .val (.int (0 : Int32)), .val (.ref b104), .val (.ref b108), .val (.int (1 : Int32))] [])) (fun t k => XS.icmpNo X123.here hx rfl (hb hby at_210) rfl (teq (by decide : (1 : Int32) = (1 : Int32))).2 k) ?_
              refine own_go (B := T123.setTop (mkF m 214 #[.val (.long p1), .second, .val (.long p2), .second, .val (.int p3), .val (.int p4), .val (.int p5), .val (.int p6), .val (.long ta), .second, .val (.long tb), .second, .val (.int ya), .val (.int da), .val (.int yb), .val (.int db), .val (.int (0 : Int32)), .val (.int (0 : Int32)), .val (.ref b104), .val (.ref b108), .val (.int (1 : Int32))] [(.int (1 : Int32))])) (fun t k => XS.iconst X123.here hx rfl (hb hby at_213) k) ?_
              refine own_go (B := T123.setTop (mkF m 218 #[.val (.long p1), .second, .val (.long p2), .second, .val (.int p3), .val (.int p4), .val (.int p5), .val (.int p6), .val (.long ta), .second, .val (.long tb), .second, .val (.int ya), .val (.int da), .val (.int yb), .val (.int db), .val (.int (0 : Int32)), .val (.int (0 : Int32)), .val (.ref b104), .val (.ref b108), .val (.int (1 : Int32))] [(.int (1 : Int32))])) (fun t k => XS.goto X123.here hx rfl (pc0 := 214) (pc' := 218) rfl (hb hby at_214) (by decide) (by decide) k) ?_
              obtain ⟨fs, hr, hrun, hended, hW, hsame⟩ := X123.leave (v := some (.int (1 : Int32))) (fun h => by rw [Bd.returns] at h; cases h)
              refine ⟨_, _, retN X123 hx (t := .boolean) Bd.returns (by simp) (hb hby at_218) hr, hK _ _ ⟨hrun, hended, _, _, rfl, ?_, ⟨_, rfl⟩, hW, hsame.mono (by decide) (by decide)⟩⟩
              show own_Q_law Z p1 p2 p3 p4 p5 p6 w_cache cl h0 n0 _ T123.heap _
              rw [eh123]
              exact ⟨rfl, N123⟩
            · refine own_go (B := T110.setTop (mkF m 186 #[.val (.long p1), .second, .val (.long p2), .second, .val (.int p3), .val (.int p4), .val (.int p5), .val (.int p6), .val (.long ta), .second, .val (.long tb), .second, .val (.int ya), .val (.int da), .val (.int yb), .val (.int db), .val (.int (0 : Int32)), .val (.int (0 : Int32)), .val (.ref b104), .val (.ref b108), .unset] [])) (fun t k => XS.icmpYes X110.here hx rfl (pc0 := 179) (pc' := 186) rfl (hb hby at_179) rfl (feq hc179_114).2 (by decide) (by decide) k) ?_
              refine own_go (B := T110.setTop (mkF m 187 #[.val (.long p1), .second, .val (.long p2), .second, .val (.int p3), .val (.int p4), .val (.int p5), .val (.int p6), .val (.long ta), .second, .val (.long tb), .second, .val (.int ya), .val (.int da), .val (.int yb), .val (.int db), .val (.int (0 : Int32)), .val (.int (0 : Int32)), .val (.ref b104), .val (.ref b108), .unset] [(.int (0 : Int32))])) (fun t k => XS.iconst X110.here hx rfl (hb hby at_186) k) ?_
              refine own_go (B := T110.setTop (mkF m 189 #[.val (.long p1), .second, .val (.long p2), .second, .val (.int p3), .val (.int p4), .val (.int p5), .val (.int p6), .val (.long ta), .second, .val (.long tb), .second, .val (.int ya), .val (.int da), .val (.int yb), .val (.int db), .val (.int (0 : Int32)), .val (.int (0 : Int32)), .val (.ref b104), .val (.ref b108), .val (.int (0 : Int32))] [])) (fun t k => XS.istore X110.here hx rfl (hb hby at_187) rfl (l' := #[.val (.long p1), .second, .val (.long p2), .second, .val (.int p3), .val (.int p4), .val (.int p5), .val (.int p6), .val (.long ta), .second, .val (.long tb), .second, .val (.int ya), .val (.int da), .val (.int yb), .val (.int db), .val (.int (0 : Int32)), .val (.int (0 : Int32)), .val (.ref b104), .val (.ref b108), .val (.int (0 : Int32))]) rfl k) ?_
              refine own_go (B := T110.setTop (mkF m 191 #[.val (.long p1), .second, .val (.long p2), .second, .val (.int p3), .val (.int p4), .val (.int p5), .val (.int p6), .val (.long ta), .second, .val (.long tb), .second, .val (.int ya), .val (.int da), .val (.int yb), .val (.int db), .val (.int (0 : Int32)), .val (.int (0 : Int32)), .val (.ref b104), .val (.ref b108), .val (.int (0 : Int32))] [(.ref b104)])) (fun t k => XS.aload X110.here hx rfl (hb hby at_189) rfl rfl k) ?_
              refine own_go (B := T110.setTop (mkF m 193 #[.val (.long p1), .second, .val (.long p2), .second, .val (.int p3), .val (.int p4), .val (.int p5), .val (.int p6), .val (.long ta), .second, .val (.long tb), .second, .val (.int ya), .val (.int da), .val (.int yb), .val (.int db), .val (.int (0 : Int32)), .val (.int (0 : Int32)), .val (.ref b104), .val (.ref b108), .val (.int (0 : Int32))] [(.ref b108), (.ref b104)])) (fun t k => XS.aload X110.here hx rfl (hb hby at_191) rfl rfl k) ?_
              have f126 := ((Fn105_0.ext E108).keep Kc110 (ninS (Nat.ne_of_lt (Nat.lt_of_lt_of_le lt_b104_108 (Nat.le_of_eq g108.symm))) nin0))
              have f127 := ((Fn105_1.ext E108).keep Kc110 (ninS (Nat.ne_of_lt (Nat.lt_of_lt_of_le lt_b104_108 (Nat.le_of_eq g108.symm))) nin0))
              have f128 := ((Fn105_2.ext E108).keep Kc110 (ninS (Nat.ne_of_lt (Nat.lt_of_lt_of_le lt_b104_108 (Nat.le_of_eq g108.symm))) nin0))
              have f129 := ((Fn105_3.ext E108).keep Kc110 (ninS (Nat.ne_of_lt (Nat.lt_of_lt_of_le lt_b104_108 (Nat.le_of_eq g108.symm))) nin0))
              have f130 := (A108.keep Kc110)
              have f132 := ((f109.ext E108).keep Kc110)
              obtain ⟨cq131, kq131, q131a, q131b, q131c⟩ := isOf hZ (rfl : T110.heap = T110.heap) f132
              obtain ⟨_, _, ⟨T131, L131, k131, n131⟩, -, X131, ⟨Lc131, hQ131, l131, y131, z131⟩, st131⟩ := X110.virtualBack hx (y := (⟨"com/example/helm_of_panes/helmofpanes/input/InputEvent", "equals", "(Ljava/lang/Object;)Z"⟩ : MethodName)) (z := (⟨"com/example/helm_of_panes/helmofpanes/input/InputEvent", "equals", "(Ljava/lang/Object;)Z"⟩ : MethodName)) hown (mvT hZ (hw _ (List.mem_of_getElem? (i := 20) rfl))) (mvT hZ (hw _ (List.mem_of_getElem? (i := 21) rfl))) (notFace_of_selects (args := #[]) (mvT hZ (hw _ (List.mem_of_getElem? (i := 23) rfl)))) (mvT hZ (hw _ (List.mem_of_getElem? (i := 23) rfl))) (mvT hZ (hw _ (List.mem_of_getElem? (i := 22) rfl))) (by decide) (backOf (W := 0) (own_rm_eqP l Z a0 hw [] b104 b108 ta tb ya da p5 yb db p6 (0 : Int32) T110.heap n0 O110 (Nat.ne_of_lt (Nat.lt_of_lt_of_le lt_b104_108 (Nat.le_of_eq g108.symm))) f130 f126 f127 f128 f129 Fn110_0 Fn110_1 Fn110_2 Fn110_3 (by simp [hc158_111, hc165_112, hc172_113, hc179_114])) hZ (hw _ (List.mem_of_getElem? (i := 24) rfl)) (hw _ (List.mem_of_getElem? (i := 4) rfl)) (by decide) (by decide)) q131a q131c (g := (mkF m 193 #[.val (.long p1), .second, .val (.long p2), .second, .val (.int p3), .val (.int p4), .val (.int p5), .val (.int p6), .val (.long ta), .second, .val (.long tb), .second, .val (.int ya), .val (.int da), .val (.int yb), .val (.int db), .val (.int (0 : Int32)), .val (.int (0 : Int32)), .val (.ref b104), .val (.ref b108), .val (.int (0 : Int32))] [(.ref b108), (.ref b104)])) rfl (by rw [hml]; rfl) (Steps.refl _) (argsL := [(.ref b108)]) (rest := []) (lenOf own_pd_3 rfl) rfl (by show 2 * 0 + _ ≤ _; exact Nat.le_of_eq rfl) (hb hby at_193) (fun _ _ => ⟨rfl, (rfl : T110.heap = T110.heap), (by decide : 2 + 0 ≤ _), (by decide : 8 + 0 ≤ _)⟩)
              dsimp only [Pt.U, Pt.locs, Pt.cells, Pt.slots] at X131 l131 y131 z131 st131 hQ131
              subst l131 y131 z131
              obtain ⟨rfl, N131q, eh131⟩ := hQ131
              have N131 := Fr.app N110 N131q
              refine own_go (B := T131.setTop (mkF m 196 #[.val (.long p1), .second, .val (.long p2), .second, .val (.int p3), .val (.int p4), .val (.int p5), .val (.int p6), .val (.long ta), .second, .val (.long tb), .second, .val (.int ya), .val (.int da), .val (.int yb), .val (.int db), .val (.int (0 : Int32)), .val (.int (0 : Int32)), .val (.ref b104), .val (.ref b108), .val (.int (0 : Int32))] [(.int (0 : Int32))])) (fun t k => st131.trans k) ?_
              refine own_go (B := T131.setTop (mkF m 198 #[.val (.long p1), .second, .val (.long p2), .second, .val (.int p3), .val (.int p4), .val (.int p5), .val (.int p6), .val (.long ta), .second, .val (.long tb), .second, .val (.int ya), .val (.int da), .val (.int yb), .val (.int db), .val (.int (0 : Int32)), .val (.int (0 : Int32)), .val (.ref b104), .val (.ref b108), .val (.int (0 : Int32))] [(.int (0 : Int32)), (.int (0 : Int32))])) (fun t k => XS.iload X131.here hx rfl (hb hby at_196) rfl k) ?_
              refine own_go (B := T131.setTop (mkF m 201 #[.val (.long p1), .second, .val (.long p2), .second, .val (.int p3), .val (.int p4), .val (.int p5), .val (.int p6), .val (.long ta), .second, .val (.long tb), .second, .val (.int ya), .val (.int da), .val (.int yb), .val (.int db), .val (.int (0 : Int32)), .val (.int (0 : Int32)), .val (.ref b104), .val (.ref b108), .val (.int (0 : Int32))] [])) (fun t k => XS.icmpNo X131.here hx rfl (hb hby at_198) rfl (teq (by decide : (0 : Int32) = (0 : Int32))).2 k) ?_
              refine own_go (B := T131.setTop (mkF m 203 #[.val (.long p1), .second, .val (.long p2), .second, .val (.int p3), .val (.int p4), .val (.int p5), .val (.int p6), .val (.long ta), .second, .val (.long tb), .second, .val (.int ya), .val (.int da), .val (.int yb), .val (.int db), .val (.int (0 : Int32)), .val (.int (0 : Int32)), .val (.ref b104), .val (.ref b108), .val (.int (0 : Int32))] [(.ref b108)])) (fun t k => XS.aload X131.here hx rfl (hb hby at_201) rfl rfl k) ?_
              refine own_go (B := T131.setTop (mkF m 205 #[.val (.long p1), .second, .val (.long p2), .second, .val (.int p3), .val (.int p4), .val (.int p5), .val (.int p6), .val (.long ta), .second, .val (.long tb), .second, .val (.int ya), .val (.int da), .val (.int yb), .val (.int db), .val (.int (0 : Int32)), .val (.int (0 : Int32)), .val (.ref b104), .val (.ref b108), .val (.int (0 : Int32))] [(.ref b104), (.ref b108)])) (fun t k => XS.aload X131.here hx rfl (hb hby at_203) rfl rfl k) ?_
              obtain ⟨cq134, kq134, q134a, q134b, q134c⟩ := isOf hZ eh131 f130
              obtain ⟨_, _, ⟨T134, L134, k134, n134⟩, -, X134, ⟨Lc134, hQ134, l134, y134, z134⟩, st134⟩ := X131.virtualBack hx (y := (⟨"com/example/helm_of_panes/helmofpanes/input/InputEvent", "equals", "(Ljava/lang/Object;)Z"⟩ : MethodName)) (z := (⟨"com/example/helm_of_panes/helmofpanes/input/InputEvent", "equals", "(Ljava/lang/Object;)Z"⟩ : MethodName)) hown (mvT hZ (hw _ (List.mem_of_getElem? (i := 20) rfl))) (mvT hZ (hw _ (List.mem_of_getElem? (i := 21) rfl))) (notFace_of_selects (args := #[]) (mvT hZ (hw _ (List.mem_of_getElem? (i := 23) rfl)))) (mvT hZ (hw _ (List.mem_of_getElem? (i := 23) rfl))) (mvT hZ (hw _ (List.mem_of_getElem? (i := 22) rfl))) (by decide) (backOf (W := 0) (own_rm_eqP l Z a0 hw [] b108 b104 tb ta yb db p6 ya da p5 (0 : Int32) T110.heap n0 O110 (Ne.symm (Nat.ne_of_lt (Nat.lt_of_lt_of_le lt_b104_108 (Nat.le_of_eq g108.symm)))) f132 Fn110_0 Fn110_1 Fn110_2 Fn110_3 f126 f127 f128 f129 (by simp [(Eq.symm hc158_111), (Eq.symm hc165_112), (Eq.symm hc172_113), (Ne.symm hc179_114)])) hZ (hw _ (List.mem_of_getElem? (i := 24) rfl)) (hw _ (List.mem_of_getElem? (i := 4) rfl)) (by decide) (by decide)) q134a q134c (g := (mkF m 205 #[.val (.long p1), .second, .val (.long p2), .second, .val (.int p3), .val (.int p4), .val (.int p5), .val (.int p6), .val (.long ta), .second, .val (.long tb), .second, .val (.int ya), .val (.int da), .val (.int yb), .val (.int db), .val (.int (0 : Int32)), .val (.int (0 : Int32)), .val (.ref b104), .val (.ref b108), .val (.int (0 : Int32))] [(.ref b104), (.ref b108)])) rfl (by rw [hml]; rfl) (Steps.refl _) (argsL := [(.ref b104)]) (rest := []) (lenOf own_pd_3 rfl) rfl (by show 2 * 0 + _ ≤ _; exact Nat.le_of_eq rfl) (hb hby at_205) (fun _ _ => ⟨rfl, eh131, (by decide : 2 + 0 ≤ _), (by decide : 8 + 0 ≤ _)⟩)
              dsimp only [Pt.U, Pt.locs, Pt.cells, Pt.slots] at X134 l134 y134 z134 st134 hQ134
              subst l134 y134 z134
              obtain ⟨rfl, N134q, eh134⟩ := hQ134
              have N134 := Fr.app N131 N134q
              refine own_go (B := T134.setTop (mkF m 208 #[.val (.long p1), .second, .val (.long p2), .second, .val (.int p3), .val (.int p4), .val (.int p5), .val (.int p6), .val (.long ta), .second, .val (.long tb), .second, .val (.int ya), .val (.int da), .val (.int yb), .val (.int db), .val (.int (0 : Int32)), .val (.int (0 : Int32)), .val (.ref b104), .val (.ref b108), .val (.int (0 : Int32))] [(.int (0 : Int32))])) (fun t k => st134.trans k) ?_
              refine own_go (B := T134.setTop (mkF m 210 #[.val (.long p1), .second, .val (.long p2), .second, .val (.int p3), .val (.int p4), .val (.int p5), .val (.int p6), .val (.long ta), .second, .val (.long tb), .second, .val (.int ya), .val (.int da), .val (.int yb), .val (.int db), .val (.int (0 : Int32)), .val (.int (0 : Int32)), .val (.ref b104), .val (.ref b108), .val (.int (0 : Int32))] [(.int (0 : Int32)), (.int (0 : Int32))])) (fun t k => XS.iload X134.here hx rfl (hb hby at_208) rfl k) ?_
              refine own_go (B := T134.setTop (mkF m 213 #[.val (.long p1), .second, .val (.long p2), .second, .val (.int p3), .val (.int p4), .val (.int p5), .val (.int p6), .val (.long ta), .second, .val (.long tb), .second, .val (.int ya), .val (.int da), .val (.int yb), .val (.int db), .val (.int (0 : Int32)), .val (.int (0 : Int32)), .val (.ref b104), .val (.ref b108), .val (.int (0 : Int32))] [])) (fun t k => XS.icmpNo X134.here hx rfl (hb hby at_210) rfl (teq (by decide : (0 : Int32) = (0 : Int32))).2 k) ?_
              refine own_go (B := T134.setTop (mkF m 214 #[.val (.long p1), .second, .val (.long p2), .second, .val (.int p3), .val (.int p4), .val (.int p5), .val (.int p6), .val (.long ta), .second, .val (.long tb), .second, .val (.int ya), .val (.int da), .val (.int yb), .val (.int db), .val (.int (0 : Int32)), .val (.int (0 : Int32)), .val (.ref b104), .val (.ref b108), .val (.int (0 : Int32))] [(.int (1 : Int32))])) (fun t k => XS.iconst X134.here hx rfl (hb hby at_213) k) ?_
              refine own_go (B := T134.setTop (mkF m 218 #[.val (.long p1), .second, .val (.long p2), .second, .val (.int p3), .val (.int p4), .val (.int p5), .val (.int p6), .val (.long ta), .second, .val (.long tb), .second, .val (.int ya), .val (.int da), .val (.int yb), .val (.int db), .val (.int (0 : Int32)), .val (.int (0 : Int32)), .val (.ref b104), .val (.ref b108), .val (.int (0 : Int32))] [(.int (1 : Int32))])) (fun t k => XS.goto X134.here hx rfl (pc0 := 214) (pc' := 218) rfl (hb hby at_214) (by decide) (by decide) k) ?_
              obtain ⟨fs, hr, hrun, hended, hW, hsame⟩ := X134.leave (v := some (.int (1 : Int32))) (fun h => by rw [Bd.returns] at h; cases h)
              refine ⟨_, _, retN X134 hx (t := .boolean) Bd.returns (by simp) (hb hby at_218) hr, hK _ _ ⟨hrun, hended, _, _, rfl, ?_, ⟨_, rfl⟩, hW, hsame.mono (by decide) (by decide)⟩⟩
              show own_Q_law Z p1 p2 p3 p4 p5 p6 w_cache cl h0 n0 _ T134.heap _
              rw [eh134]
              exact ⟨rfl, N134⟩
          · refine own_go (B := T110.setTop (mkF m 186 #[.val (.long p1), .second, .val (.long p2), .second, .val (.int p3), .val (.int p4), .val (.int p5), .val (.int p6), .val (.long ta), .second, .val (.long tb), .second, .val (.int ya), .val (.int da), .val (.int yb), .val (.int db), .val (.int (0 : Int32)), .val (.int (0 : Int32)), .val (.ref b104), .val (.ref b108), .unset] [])) (fun t k => XS.icmpYes X110.here hx rfl (pc0 := 172) (pc' := 186) rfl (hb hby at_172) rfl (feq hc172_113).2 (by decide) (by decide) k) ?_
            refine own_go (B := T110.setTop (mkF m 187 #[.val (.long p1), .second, .val (.long p2), .second, .val (.int p3), .val (.int p4), .val (.int p5), .val (.int p6), .val (.long ta), .second, .val (.long tb), .second, .val (.int ya), .val (.int da), .val (.int yb), .val (.int db), .val (.int (0 : Int32)), .val (.int (0 : Int32)), .val (.ref b104), .val (.ref b108), .unset] [(.int (0 : Int32))])) (fun t k => XS.iconst X110.here hx rfl (hb hby at_186) k) ?_
            refine own_go (B := T110.setTop (mkF m 189 #[.val (.long p1), .second, .val (.long p2), .second, .val (.int p3), .val (.int p4), .val (.int p5), .val (.int p6), .val (.long ta), .second, .val (.long tb), .second, .val (.int ya), .val (.int da), .val (.int yb), .val (.int db), .val (.int (0 : Int32)), .val (.int (0 : Int32)), .val (.ref b104), .val (.ref b108), .val (.int (0 : Int32))] [])) (fun t k => XS.istore X110.here hx rfl (hb hby at_187) rfl (l' := #[.val (.long p1), .second, .val (.long p2), .second, .val (.int p3), .val (.int p4), .val (.int p5), .val (.int p6), .val (.long ta), .second, .val (.long tb), .second, .val (.int ya), .val (.int da), .val (.int yb), .val (.int db), .val (.int (0 : Int32)), .val (.int (0 : Int32)), .val (.ref b104), .val (.ref b108), .val (.int (0 : Int32))]) rfl k) ?_
            refine own_go (B := T110.setTop (mkF m 191 #[.val (.long p1), .second, .val (.long p2), .second, .val (.int p3), .val (.int p4), .val (.int p5), .val (.int p6), .val (.long ta), .second, .val (.long tb), .second, .val (.int ya), .val (.int da), .val (.int yb), .val (.int db), .val (.int (0 : Int32)), .val (.int (0 : Int32)), .val (.ref b104), .val (.ref b108), .val (.int (0 : Int32))] [(.ref b104)])) (fun t k => XS.aload X110.here hx rfl (hb hby at_189) rfl rfl k) ?_
            refine own_go (B := T110.setTop (mkF m 193 #[.val (.long p1), .second, .val (.long p2), .second, .val (.int p3), .val (.int p4), .val (.int p5), .val (.int p6), .val (.long ta), .second, .val (.long tb), .second, .val (.int ya), .val (.int da), .val (.int yb), .val (.int db), .val (.int (0 : Int32)), .val (.int (0 : Int32)), .val (.ref b104), .val (.ref b108), .val (.int (0 : Int32))] [(.ref b108), (.ref b104)])) (fun t k => XS.aload X110.here hx rfl (hb hby at_191) rfl rfl k) ?_
            have f137 := ((Fn105_0.ext E108).keep Kc110 (ninS (Nat.ne_of_lt (Nat.lt_of_lt_of_le lt_b104_108 (Nat.le_of_eq g108.symm))) nin0))
            have f138 := ((Fn105_1.ext E108).keep Kc110 (ninS (Nat.ne_of_lt (Nat.lt_of_lt_of_le lt_b104_108 (Nat.le_of_eq g108.symm))) nin0))
            have f139 := ((Fn105_2.ext E108).keep Kc110 (ninS (Nat.ne_of_lt (Nat.lt_of_lt_of_le lt_b104_108 (Nat.le_of_eq g108.symm))) nin0))
            have f140 := ((Fn105_3.ext E108).keep Kc110 (ninS (Nat.ne_of_lt (Nat.lt_of_lt_of_le lt_b104_108 (Nat.le_of_eq g108.symm))) nin0))
            have f141 := (A108.keep Kc110)
            have f143 := ((f109.ext E108).keep Kc110)
            obtain ⟨cq142, kq142, q142a, q142b, q142c⟩ := isOf hZ (rfl : T110.heap = T110.heap) f143
            obtain ⟨_, _, ⟨T142, L142, k142, n142⟩, -, X142, ⟨Lc142, hQ142, l142, y142, z142⟩, st142⟩ := X110.virtualBack hx (y := (⟨"com/example/helm_of_panes/helmofpanes/input/InputEvent", "equals", "(Ljava/lang/Object;)Z"⟩ : MethodName)) (z := (⟨"com/example/helm_of_panes/helmofpanes/input/InputEvent", "equals", "(Ljava/lang/Object;)Z"⟩ : MethodName)) hown (mvT hZ (hw _ (List.mem_of_getElem? (i := 20) rfl))) (mvT hZ (hw _ (List.mem_of_getElem? (i := 21) rfl))) (notFace_of_selects (args := #[]) (mvT hZ (hw _ (List.mem_of_getElem? (i := 23) rfl)))) (mvT hZ (hw _ (List.mem_of_getElem? (i := 23) rfl))) (mvT hZ (hw _ (List.mem_of_getElem? (i := 22) rfl))) (by decide) (backOf (W := 0) (own_rm_eqP l Z a0 hw [] b104 b108 ta tb ya da p5 yb db p6 (0 : Int32) T110.heap n0 O110 (Nat.ne_of_lt (Nat.lt_of_lt_of_le lt_b104_108 (Nat.le_of_eq g108.symm))) f141 f137 f138 f139 f140 Fn110_0 Fn110_1 Fn110_2 Fn110_3 (by simp [hc158_111, hc165_112, hc172_113])) hZ (hw _ (List.mem_of_getElem? (i := 24) rfl)) (hw _ (List.mem_of_getElem? (i := 4) rfl)) (by decide) (by decide)) q142a q142c (g := (mkF m 193 #[.val (.long p1), .second, .val (.long p2), .second, .val (.int p3), .val (.int p4), .val (.int p5), .val (.int p6), .val (.long ta), .second, .val (.long tb), .second, .val (.int ya), .val (.int da), .val (.int yb), .val (.int db), .val (.int (0 : Int32)), .val (.int (0 : Int32)), .val (.ref b104), .val (.ref b108), .val (.int (0 : Int32))] [(.ref b108), (.ref b104)])) rfl (by rw [hml]; rfl) (Steps.refl _) (argsL := [(.ref b108)]) (rest := []) (lenOf own_pd_3 rfl) rfl (by show 2 * 0 + _ ≤ _; exact Nat.le_of_eq rfl) (hb hby at_193) (fun _ _ => ⟨rfl, (rfl : T110.heap = T110.heap), (by decide : 2 + 0 ≤ _), (by decide : 8 + 0 ≤ _)⟩)
            dsimp only [Pt.U, Pt.locs, Pt.cells, Pt.slots] at X142 l142 y142 z142 st142 hQ142
            subst l142 y142 z142
            obtain ⟨rfl, N142q, eh142⟩ := hQ142
            have N142 := Fr.app N110 N142q
            refine own_go (B := T142.setTop (mkF m 196 #[.val (.long p1), .second, .val (.long p2), .second, .val (.int p3), .val (.int p4), .val (.int p5), .val (.int p6), .val (.long ta), .second, .val (.long tb), .second, .val (.int ya), .val (.int da), .val (.int yb), .val (.int db), .val (.int (0 : Int32)), .val (.int (0 : Int32)), .val (.ref b104), .val (.ref b108), .val (.int (0 : Int32))] [(.int (0 : Int32))])) (fun t k => st142.trans k) ?_
            refine own_go (B := T142.setTop (mkF m 198 #[.val (.long p1), .second, .val (.long p2), .second, .val (.int p3), .val (.int p4), .val (.int p5), .val (.int p6), .val (.long ta), .second, .val (.long tb), .second, .val (.int ya), .val (.int da), .val (.int yb), .val (.int db), .val (.int (0 : Int32)), .val (.int (0 : Int32)), .val (.ref b104), .val (.ref b108), .val (.int (0 : Int32))] [(.int (0 : Int32)), (.int (0 : Int32))])) (fun t k => XS.iload X142.here hx rfl (hb hby at_196) rfl k) ?_
            refine own_go (B := T142.setTop (mkF m 201 #[.val (.long p1), .second, .val (.long p2), .second, .val (.int p3), .val (.int p4), .val (.int p5), .val (.int p6), .val (.long ta), .second, .val (.long tb), .second, .val (.int ya), .val (.int da), .val (.int yb), .val (.int db), .val (.int (0 : Int32)), .val (.int (0 : Int32)), .val (.ref b104), .val (.ref b108), .val (.int (0 : Int32))] [])) (fun t k => XS.icmpNo X142.here hx rfl (hb hby at_198) rfl (teq (by decide : (0 : Int32) = (0 : Int32))).2 k) ?_
            refine own_go (B := T142.setTop (mkF m 203 #[.val (.long p1), .second, .val (.long p2), .second, .val (.int p3), .val (.int p4), .val (.int p5), .val (.int p6), .val (.long ta), .second, .val (.long tb), .second, .val (.int ya), .val (.int da), .val (.int yb), .val (.int db), .val (.int (0 : Int32)), .val (.int (0 : Int32)), .val (.ref b104), .val (.ref b108), .val (.int (0 : Int32))] [(.ref b108)])) (fun t k => XS.aload X142.here hx rfl (hb hby at_201) rfl rfl k) ?_
            refine own_go (B := T142.setTop (mkF m 205 #[.val (.long p1), .second, .val (.long p2), .second, .val (.int p3), .val (.int p4), .val (.int p5), .val (.int p6), .val (.long ta), .second, .val (.long tb), .second, .val (.int ya), .val (.int da), .val (.int yb), .val (.int db), .val (.int (0 : Int32)), .val (.int (0 : Int32)), .val (.ref b104), .val (.ref b108), .val (.int (0 : Int32))] [(.ref b104), (.ref b108)])) (fun t k => XS.aload X142.here hx rfl (hb hby at_203) rfl rfl k) ?_
            obtain ⟨cq145, kq145, q145a, q145b, q145c⟩ := isOf hZ eh142 f141
            obtain ⟨_, _, ⟨T145, L145, k145, n145⟩, -, X145, ⟨Lc145, hQ145, l145, y145, z145⟩, st145⟩ := X142.virtualBack hx (y := (⟨"com/example/helm_of_panes/helmofpanes/input/InputEvent", "equals", "(Ljava/lang/Object;)Z"⟩ : MethodName)) (z := (⟨"com/example/helm_of_panes/helmofpanes/input/InputEvent", "equals", "(Ljava/lang/Object;)Z"⟩ : MethodName)) hown (mvT hZ (hw _ (List.mem_of_getElem? (i := 20) rfl))) (mvT hZ (hw _ (List.mem_of_getElem? (i := 21) rfl))) (notFace_of_selects (args := #[]) (mvT hZ (hw _ (List.mem_of_getElem? (i := 23) rfl)))) (mvT hZ (hw _ (List.mem_of_getElem? (i := 23) rfl))) (mvT hZ (hw _ (List.mem_of_getElem? (i := 22) rfl))) (by decide) (backOf (W := 0) (own_rm_eqP l Z a0 hw [] b108 b104 tb ta yb db p6 ya da p5 (0 : Int32) T110.heap n0 O110 (Ne.symm (Nat.ne_of_lt (Nat.lt_of_lt_of_le lt_b104_108 (Nat.le_of_eq g108.symm)))) f143 Fn110_0 Fn110_1 Fn110_2 Fn110_3 f137 f138 f139 f140 (by simp [(Eq.symm hc158_111), (Eq.symm hc165_112), (Ne.symm hc172_113)])) hZ (hw _ (List.mem_of_getElem? (i := 24) rfl)) (hw _ (List.mem_of_getElem? (i := 4) rfl)) (by decide) (by decide)) q145a q145c (g := (mkF m 205 #[.val (.long p1), .second, .val (.long p2), .second, .val (.int p3), .val (.int p4), .val (.int p5), .val (.int p6), .val (.long ta), .second, .val (.long tb), .second, .val (.int ya), .val (.int da), .val (.int yb), .val (.int db), .val (.int (0 : Int32)), .val (.int (0 : Int32)), .val (.ref b104), .val (.ref b108), .val (.int (0 : Int32))] [(.ref b104), (.ref b108)])) rfl (by rw [hml]; rfl) (Steps.refl _) (argsL := [(.ref b104)]) (rest := []) (lenOf own_pd_3 rfl) rfl (by show 2 * 0 + _ ≤ _; exact Nat.le_of_eq rfl) (hb hby at_205) (fun _ _ => ⟨rfl, eh142, (by decide : 2 + 0 ≤ _), (by decide : 8 + 0 ≤ _)⟩)
            dsimp only [Pt.U, Pt.locs, Pt.cells, Pt.slots] at X145 l145 y145 z145 st145 hQ145
            subst l145 y145 z145
            obtain ⟨rfl, N145q, eh145⟩ := hQ145
            have N145 := Fr.app N142 N145q
            refine own_go (B := T145.setTop (mkF m 208 #[.val (.long p1), .second, .val (.long p2), .second, .val (.int p3), .val (.int p4), .val (.int p5), .val (.int p6), .val (.long ta), .second, .val (.long tb), .second, .val (.int ya), .val (.int da), .val (.int yb), .val (.int db), .val (.int (0 : Int32)), .val (.int (0 : Int32)), .val (.ref b104), .val (.ref b108), .val (.int (0 : Int32))] [(.int (0 : Int32))])) (fun t k => st145.trans k) ?_
            refine own_go (B := T145.setTop (mkF m 210 #[.val (.long p1), .second, .val (.long p2), .second, .val (.int p3), .val (.int p4), .val (.int p5), .val (.int p6), .val (.long ta), .second, .val (.long tb), .second, .val (.int ya), .val (.int da), .val (.int yb), .val (.int db), .val (.int (0 : Int32)), .val (.int (0 : Int32)), .val (.ref b104), .val (.ref b108), .val (.int (0 : Int32))] [(.int (0 : Int32)), (.int (0 : Int32))])) (fun t k => XS.iload X145.here hx rfl (hb hby at_208) rfl k) ?_
            refine own_go (B := T145.setTop (mkF m 213 #[.val (.long p1), .second, .val (.long p2), .second, .val (.int p3), .val (.int p4), .val (.int p5), .val (.int p6), .val (.long ta), .second, .val (.long tb), .second, .val (.int ya), .val (.int da), .val (.int yb), .val (.int db), .val (.int (0 : Int32)), .val (.int (0 : Int32)), .val (.ref b104), .val (.ref b108), .val (.int (0 : Int32))] [])) (fun t k => XS.icmpNo X145.here hx rfl (hb hby at_210) rfl (teq (by decide : (0 : Int32) = (0 : Int32))).2 k) ?_
            refine own_go (B := T145.setTop (mkF m 214 #[.val (.long p1), .second, .val (.long p2), .second, .val (.int p3), .val (.int p4), .val (.int p5), .val (.int p6), .val (.long ta), .second, .val (.long tb), .second, .val (.int ya), .val (.int da), .val (.int yb), .val (.int db), .val (.int (0 : Int32)), .val (.int (0 : Int32)), .val (.ref b104), .val (.ref b108), .val (.int (0 : Int32))] [(.int (1 : Int32))])) (fun t k => XS.iconst X145.here hx rfl (hb hby at_213) k) ?_
            refine own_go (B := T145.setTop (mkF m 218 #[.val (.long p1), .second, .val (.long p2), .second, .val (.int p3), .val (.int p4), .val (.int p5), .val (.int p6), .val (.long ta), .second, .val (.long tb), .second, .val (.int ya), .val (.int da), .val (.int yb), .val (.int db), .val (.int (0 : Int32)), .val (.int (0 : Int32)), .val (.ref b104), .val (.ref b108), .val (.int (0 : Int32))] [(.int (1 : Int32))])) (fun t k => XS.goto X145.here hx rfl (pc0 := 214) (pc' := 218) rfl (hb hby at_214) (by decide) (by decide) k) ?_
            obtain ⟨fs, hr, hrun, hended, hW, hsame⟩ := X145.leave (v := some (.int (1 : Int32))) (fun h => by rw [Bd.returns] at h; cases h)
            refine ⟨_, _, retN X145 hx (t := .boolean) Bd.returns (by simp) (hb hby at_218) hr, hK _ _ ⟨hrun, hended, _, _, rfl, ?_, ⟨_, rfl⟩, hW, hsame.mono (by decide) (by decide)⟩⟩
            show own_Q_law Z p1 p2 p3 p4 p5 p6 w_cache cl h0 n0 _ T145.heap _
            rw [eh145]
            exact ⟨rfl, N145⟩
        · refine own_go (B := T110.setTop (mkF m 186 #[.val (.long p1), .second, .val (.long p2), .second, .val (.int p3), .val (.int p4), .val (.int p5), .val (.int p6), .val (.long ta), .second, .val (.long tb), .second, .val (.int ya), .val (.int da), .val (.int yb), .val (.int db), .val (.int (0 : Int32)), .val (.int (0 : Int32)), .val (.ref b104), .val (.ref b108), .unset] [])) (fun t k => XS.icmpYes X110.here hx rfl (pc0 := 165) (pc' := 186) rfl (hb hby at_165) rfl (feq hc165_112).2 (by decide) (by decide) k) ?_
          refine own_go (B := T110.setTop (mkF m 187 #[.val (.long p1), .second, .val (.long p2), .second, .val (.int p3), .val (.int p4), .val (.int p5), .val (.int p6), .val (.long ta), .second, .val (.long tb), .second, .val (.int ya), .val (.int da), .val (.int yb), .val (.int db), .val (.int (0 : Int32)), .val (.int (0 : Int32)), .val (.ref b104), .val (.ref b108), .unset] [(.int (0 : Int32))])) (fun t k => XS.iconst X110.here hx rfl (hb hby at_186) k) ?_
          refine own_go (B := T110.setTop (mkF m 189 #[.val (.long p1), .second, .val (.long p2), .second, .val (.int p3), .val (.int p4), .val (.int p5), .val (.int p6), .val (.long ta), .second, .val (.long tb), .second, .val (.int ya), .val (.int da), .val (.int yb), .val (.int db), .val (.int (0 : Int32)), .val (.int (0 : Int32)), .val (.ref b104), .val (.ref b108), .val (.int (0 : Int32))] [])) (fun t k => XS.istore X110.here hx rfl (hb hby at_187) rfl (l' := #[.val (.long p1), .second, .val (.long p2), .second, .val (.int p3), .val (.int p4), .val (.int p5), .val (.int p6), .val (.long ta), .second, .val (.long tb), .second, .val (.int ya), .val (.int da), .val (.int yb), .val (.int db), .val (.int (0 : Int32)), .val (.int (0 : Int32)), .val (.ref b104), .val (.ref b108), .val (.int (0 : Int32))]) rfl k) ?_
          refine own_go (B := T110.setTop (mkF m 191 #[.val (.long p1), .second, .val (.long p2), .second, .val (.int p3), .val (.int p4), .val (.int p5), .val (.int p6), .val (.long ta), .second, .val (.long tb), .second, .val (.int ya), .val (.int da), .val (.int yb), .val (.int db), .val (.int (0 : Int32)), .val (.int (0 : Int32)), .val (.ref b104), .val (.ref b108), .val (.int (0 : Int32))] [(.ref b104)])) (fun t k => XS.aload X110.here hx rfl (hb hby at_189) rfl rfl k) ?_
          refine own_go (B := T110.setTop (mkF m 193 #[.val (.long p1), .second, .val (.long p2), .second, .val (.int p3), .val (.int p4), .val (.int p5), .val (.int p6), .val (.long ta), .second, .val (.long tb), .second, .val (.int ya), .val (.int da), .val (.int yb), .val (.int db), .val (.int (0 : Int32)), .val (.int (0 : Int32)), .val (.ref b104), .val (.ref b108), .val (.int (0 : Int32))] [(.ref b108), (.ref b104)])) (fun t k => XS.aload X110.here hx rfl (hb hby at_191) rfl rfl k) ?_
          have f148 := ((Fn105_0.ext E108).keep Kc110 (ninS (Nat.ne_of_lt (Nat.lt_of_lt_of_le lt_b104_108 (Nat.le_of_eq g108.symm))) nin0))
          have f149 := ((Fn105_1.ext E108).keep Kc110 (ninS (Nat.ne_of_lt (Nat.lt_of_lt_of_le lt_b104_108 (Nat.le_of_eq g108.symm))) nin0))
          have f150 := ((Fn105_2.ext E108).keep Kc110 (ninS (Nat.ne_of_lt (Nat.lt_of_lt_of_le lt_b104_108 (Nat.le_of_eq g108.symm))) nin0))
          have f151 := ((Fn105_3.ext E108).keep Kc110 (ninS (Nat.ne_of_lt (Nat.lt_of_lt_of_le lt_b104_108 (Nat.le_of_eq g108.symm))) nin0))
          have f152 := (A108.keep Kc110)
          have f154 := ((f109.ext E108).keep Kc110)
          obtain ⟨cq153, kq153, q153a, q153b, q153c⟩ := isOf hZ (rfl : T110.heap = T110.heap) f154
          obtain ⟨_, _, ⟨T153, L153, k153, n153⟩, -, X153, ⟨Lc153, hQ153, l153, y153, z153⟩, st153⟩ := X110.virtualBack hx (y := (⟨"com/example/helm_of_panes/helmofpanes/input/InputEvent", "equals", "(Ljava/lang/Object;)Z"⟩ : MethodName)) (z := (⟨"com/example/helm_of_panes/helmofpanes/input/InputEvent", "equals", "(Ljava/lang/Object;)Z"⟩ : MethodName)) hown (mvT hZ (hw _ (List.mem_of_getElem? (i := 20) rfl))) (mvT hZ (hw _ (List.mem_of_getElem? (i := 21) rfl))) (notFace_of_selects (args := #[]) (mvT hZ (hw _ (List.mem_of_getElem? (i := 23) rfl)))) (mvT hZ (hw _ (List.mem_of_getElem? (i := 23) rfl))) (mvT hZ (hw _ (List.mem_of_getElem? (i := 22) rfl))) (by decide) (backOf (W := 0) (own_rm_eqP l Z a0 hw [] b104 b108 ta tb ya da p5 yb db p6 (0 : Int32) T110.heap n0 O110 (Nat.ne_of_lt (Nat.lt_of_lt_of_le lt_b104_108 (Nat.le_of_eq g108.symm))) f152 f148 f149 f150 f151 Fn110_0 Fn110_1 Fn110_2 Fn110_3 (by simp [hc158_111, hc165_112])) hZ (hw _ (List.mem_of_getElem? (i := 24) rfl)) (hw _ (List.mem_of_getElem? (i := 4) rfl)) (by decide) (by decide)) q153a q153c (g := (mkF m 193 #[.val (.long p1), .second, .val (.long p2), .second, .val (.int p3), .val (.int p4), .val (.int p5), .val (.int p6), .val (.long ta), .second, .val (.long tb), .second, .val (.int ya), .val (.int da), .val (.int yb), .val (.int db), .val (.int (0 : Int32)), .val (.int (0 : Int32)), .val (.ref b104), .val (.ref b108), .val (.int (0 : Int32))] [(.ref b108), (.ref b104)])) rfl (by rw [hml]; rfl) (Steps.refl _) (argsL := [(.ref b108)]) (rest := []) (lenOf own_pd_3 rfl) rfl (by show 2 * 0 + _ ≤ _; exact Nat.le_of_eq rfl) (hb hby at_193) (fun _ _ => ⟨rfl, (rfl : T110.heap = T110.heap), (by decide : 2 + 0 ≤ _), (by decide : 8 + 0 ≤ _)⟩)
          dsimp only [Pt.U, Pt.locs, Pt.cells, Pt.slots] at X153 l153 y153 z153 st153 hQ153
          subst l153 y153 z153
          obtain ⟨rfl, N153q, eh153⟩ := hQ153
          have N153 := Fr.app N110 N153q
          refine own_go (B := T153.setTop (mkF m 196 #[.val (.long p1), .second, .val (.long p2), .second, .val (.int p3), .val (.int p4), .val (.int p5), .val (.int p6), .val (.long ta), .second, .val (.long tb), .second, .val (.int ya), .val (.int da), .val (.int yb), .val (.int db), .val (.int (0 : Int32)), .val (.int (0 : Int32)), .val (.ref b104), .val (.ref b108), .val (.int (0 : Int32))] [(.int (0 : Int32))])) (fun t k => st153.trans k) ?_
          refine own_go (B := T153.setTop (mkF m 198 #[.val (.long p1), .second, .val (.long p2), .second, .val (.int p3), .val (.int p4), .val (.int p5), .val (.int p6), .val (.long ta), .second, .val (.long tb), .second, .val (.int ya), .val (.int da), .val (.int yb), .val (.int db), .val (.int (0 : Int32)), .val (.int (0 : Int32)), .val (.ref b104), .val (.ref b108), .val (.int (0 : Int32))] [(.int (0 : Int32)), (.int (0 : Int32))])) (fun t k => XS.iload X153.here hx rfl (hb hby at_196) rfl k) ?_
          refine own_go (B := T153.setTop (mkF m 201 #[.val (.long p1), .second, .val (.long p2), .second, .val (.int p3), .val (.int p4), .val (.int p5), .val (.int p6), .val (.long ta), .second, .val (.long tb), .second, .val (.int ya), .val (.int da), .val (.int yb), .val (.int db), .val (.int (0 : Int32)), .val (.int (0 : Int32)), .val (.ref b104), .val (.ref b108), .val (.int (0 : Int32))] [])) (fun t k => XS.icmpNo X153.here hx rfl (hb hby at_198) rfl (teq (by decide : (0 : Int32) = (0 : Int32))).2 k) ?_
          refine own_go (B := T153.setTop (mkF m 203 #[.val (.long p1), .second, .val (.long p2), .second, .val (.int p3), .val (.int p4), .val (.int p5), .val (.int p6), .val (.long ta), .second, .val (.long tb), .second, .val (.int ya), .val (.int da), .val (.int yb), .val (.int db), .val (.int (0 : Int32)), .val (.int (0 : Int32)), .val (.ref b104), .val (.ref b108), .val (.int (0 : Int32))] [(.ref b108)])) (fun t k => XS.aload X153.here hx rfl (hb hby at_201) rfl rfl k) ?_
          refine own_go (B := T153.setTop (mkF m 205 #[.val (.long p1), .second, .val (.long p2), .second, .val (.int p3), .val (.int p4), .val (.int p5), .val (.int p6), .val (.long ta), .second, .val (.long tb), .second, .val (.int ya), .val (.int da), .val (.int yb), .val (.int db), .val (.int (0 : Int32)), .val (.int (0 : Int32)), .val (.ref b104), .val (.ref b108), .val (.int (0 : Int32))] [(.ref b104), (.ref b108)])) (fun t k => XS.aload X153.here hx rfl (hb hby at_203) rfl rfl k) ?_
          obtain ⟨cq156, kq156, q156a, q156b, q156c⟩ := isOf hZ eh153 f152
          obtain ⟨_, _, ⟨T156, L156, k156, n156⟩, -, X156, ⟨Lc156, hQ156, l156, y156, z156⟩, st156⟩ := X153.virtualBack hx (y := (⟨"com/example/helm_of_panes/helmofpanes/input/InputEvent", "equals", "(Ljava/lang/Object;)Z"⟩ : MethodName)) (z := (⟨"com/example/helm_of_panes/helmofpanes/input/InputEvent", "equals", "(Ljava/lang/Object;)Z"⟩ : MethodName)) hown (mvT hZ (hw _ (List.mem_of_getElem? (i := 20) rfl))) (mvT hZ (hw _ (List.mem_of_getElem? (i := 21) rfl))) (notFace_of_selects (args := #[]) (mvT hZ (hw _ (List.mem_of_getElem? (i := 23) rfl)))) (mvT hZ (hw _ (List.mem_of_getElem? (i := 23) rfl))) (mvT hZ (hw _ (List.mem_of_getElem? (i := 22) rfl))) (by decide) (backOf (W := 0) (own_rm_eqP l Z a0 hw [] b108 b104 tb ta yb db p6 ya da p5 (0 : Int32) T110.heap n0 O110 (Ne.symm (Nat.ne_of_lt (Nat.lt_of_lt_of_le lt_b104_108 (Nat.le_of_eq g108.symm)))) f154 Fn110_0 Fn110_1 Fn110_2 Fn110_3 f148 f149 f150 f151 (by simp [(Eq.symm hc158_111), (Ne.symm hc165_112)])) hZ (hw _ (List.mem_of_getElem? (i := 24) rfl)) (hw _ (List.mem_of_getElem? (i := 4) rfl)) (by decide) (by decide)) q156a q156c (g := (mkF m 205 #[.val (.long p1), .second, .val (.long p2), .second, .val (.int p3), .val (.int p4), .val (.int p5), .val (.int p6), .val (.long ta), .second, .val (.long tb), .second, .val (.int ya), .val (.int da), .val (.int yb), .val (.int db), .val (.int (0 : Int32)), .val (.int (0 : Int32)), .val (.ref b104), .val (.ref b108), .val (.int (0 : Int32))] [(.ref b104), (.ref b108)])) rfl (by rw [hml]; rfl) (Steps.refl _) (argsL := [(.ref b104)]) (rest := []) (lenOf own_pd_3 rfl) rfl (by show 2 * 0 + _ ≤ _; exact Nat.le_of_eq rfl) (hb hby at_205) (fun _ _ => ⟨rfl, eh153, (by decide : 2 + 0 ≤ _), (by decide : 8 + 0 ≤ _)⟩)
          dsimp only [Pt.U, Pt.locs, Pt.cells, Pt.slots] at X156 l156 y156 z156 st156 hQ156
          subst l156 y156 z156
          obtain ⟨rfl, N156q, eh156⟩ := hQ156
          have N156 := Fr.app N153 N156q
          refine own_go (B := T156.setTop (mkF m 208 #[.val (.long p1), .second, .val (.long p2), .second, .val (.int p3), .val (.int p4), .val (.int p5), .val (.int p6), .val (.long ta), .second, .val (.long tb), .second, .val (.int ya), .val (.int da), .val (.int yb), .val (.int db), .val (.int (0 : Int32)), .val (.int (0 : Int32)), .val (.ref b104), .val (.ref b108), .val (.int (0 : Int32))] [(.int (0 : Int32))])) (fun t k => st156.trans k) ?_
          refine own_go (B := T156.setTop (mkF m 210 #[.val (.long p1), .second, .val (.long p2), .second, .val (.int p3), .val (.int p4), .val (.int p5), .val (.int p6), .val (.long ta), .second, .val (.long tb), .second, .val (.int ya), .val (.int da), .val (.int yb), .val (.int db), .val (.int (0 : Int32)), .val (.int (0 : Int32)), .val (.ref b104), .val (.ref b108), .val (.int (0 : Int32))] [(.int (0 : Int32)), (.int (0 : Int32))])) (fun t k => XS.iload X156.here hx rfl (hb hby at_208) rfl k) ?_
          refine own_go (B := T156.setTop (mkF m 213 #[.val (.long p1), .second, .val (.long p2), .second, .val (.int p3), .val (.int p4), .val (.int p5), .val (.int p6), .val (.long ta), .second, .val (.long tb), .second, .val (.int ya), .val (.int da), .val (.int yb), .val (.int db), .val (.int (0 : Int32)), .val (.int (0 : Int32)), .val (.ref b104), .val (.ref b108), .val (.int (0 : Int32))] [])) (fun t k => XS.icmpNo X156.here hx rfl (hb hby at_210) rfl (teq (by decide : (0 : Int32) = (0 : Int32))).2 k) ?_
          refine own_go (B := T156.setTop (mkF m 214 #[.val (.long p1), .second, .val (.long p2), .second, .val (.int p3), .val (.int p4), .val (.int p5), .val (.int p6), .val (.long ta), .second, .val (.long tb), .second, .val (.int ya), .val (.int da), .val (.int yb), .val (.int db), .val (.int (0 : Int32)), .val (.int (0 : Int32)), .val (.ref b104), .val (.ref b108), .val (.int (0 : Int32))] [(.int (1 : Int32))])) (fun t k => XS.iconst X156.here hx rfl (hb hby at_213) k) ?_
          refine own_go (B := T156.setTop (mkF m 218 #[.val (.long p1), .second, .val (.long p2), .second, .val (.int p3), .val (.int p4), .val (.int p5), .val (.int p6), .val (.long ta), .second, .val (.long tb), .second, .val (.int ya), .val (.int da), .val (.int yb), .val (.int db), .val (.int (0 : Int32)), .val (.int (0 : Int32)), .val (.ref b104), .val (.ref b108), .val (.int (0 : Int32))] [(.int (1 : Int32))])) (fun t k => XS.goto X156.here hx rfl (pc0 := 214) (pc' := 218) rfl (hb hby at_214) (by decide) (by decide) k) ?_
          obtain ⟨fs, hr, hrun, hended, hW, hsame⟩ := X156.leave (v := some (.int (1 : Int32))) (fun h => by rw [Bd.returns] at h; cases h)
          refine ⟨_, _, retN X156 hx (t := .boolean) Bd.returns (by simp) (hb hby at_218) hr, hK _ _ ⟨hrun, hended, _, _, rfl, ?_, ⟨_, rfl⟩, hW, hsame.mono (by decide) (by decide)⟩⟩
          show own_Q_law Z p1 p2 p3 p4 p5 p6 w_cache cl h0 n0 _ T156.heap _
          rw [eh156]
          exact ⟨rfl, N156⟩
      · refine own_go (B := T110.setTop (mkF m 186 #[.val (.long p1), .second, .val (.long p2), .second, .val (.int p3), .val (.int p4), .val (.int p5), .val (.int p6), .val (.long ta), .second, .val (.long tb), .second, .val (.int ya), .val (.int da), .val (.int yb), .val (.int db), .val (.int (0 : Int32)), .val (.int (0 : Int32)), .val (.ref b104), .val (.ref b108), .unset] [])) (fun t k => XS.ifYes X110.here hx rfl (pc0 := 158) (pc' := 186) rfl (hb hby at_158) rfl ((if0 _ _).trans (feq (fun q => hc158_111 ((lw_eq ta tb).mp q))).2) (by decide) (by decide) k) ?_
        refine own_go (B := T110.setTop (mkF m 187 #[.val (.long p1), .second, .val (.long p2), .second, .val (.int p3), .val (.int p4), .val (.int p5), .val (.int p6), .val (.long ta), .second, .val (.long tb), .second, .val (.int ya), .val (.int da), .val (.int yb), .val (.int db), .val (.int (0 : Int32)), .val (.int (0 : Int32)), .val (.ref b104), .val (.ref b108), .unset] [(.int (0 : Int32))])) (fun t k => XS.iconst X110.here hx rfl (hb hby at_186) k) ?_
        refine own_go (B := T110.setTop (mkF m 189 #[.val (.long p1), .second, .val (.long p2), .second, .val (.int p3), .val (.int p4), .val (.int p5), .val (.int p6), .val (.long ta), .second, .val (.long tb), .second, .val (.int ya), .val (.int da), .val (.int yb), .val (.int db), .val (.int (0 : Int32)), .val (.int (0 : Int32)), .val (.ref b104), .val (.ref b108), .val (.int (0 : Int32))] [])) (fun t k => XS.istore X110.here hx rfl (hb hby at_187) rfl (l' := #[.val (.long p1), .second, .val (.long p2), .second, .val (.int p3), .val (.int p4), .val (.int p5), .val (.int p6), .val (.long ta), .second, .val (.long tb), .second, .val (.int ya), .val (.int da), .val (.int yb), .val (.int db), .val (.int (0 : Int32)), .val (.int (0 : Int32)), .val (.ref b104), .val (.ref b108), .val (.int (0 : Int32))]) rfl k) ?_
        refine own_go (B := T110.setTop (mkF m 191 #[.val (.long p1), .second, .val (.long p2), .second, .val (.int p3), .val (.int p4), .val (.int p5), .val (.int p6), .val (.long ta), .second, .val (.long tb), .second, .val (.int ya), .val (.int da), .val (.int yb), .val (.int db), .val (.int (0 : Int32)), .val (.int (0 : Int32)), .val (.ref b104), .val (.ref b108), .val (.int (0 : Int32))] [(.ref b104)])) (fun t k => XS.aload X110.here hx rfl (hb hby at_189) rfl rfl k) ?_
        refine own_go (B := T110.setTop (mkF m 193 #[.val (.long p1), .second, .val (.long p2), .second, .val (.int p3), .val (.int p4), .val (.int p5), .val (.int p6), .val (.long ta), .second, .val (.long tb), .second, .val (.int ya), .val (.int da), .val (.int yb), .val (.int db), .val (.int (0 : Int32)), .val (.int (0 : Int32)), .val (.ref b104), .val (.ref b108), .val (.int (0 : Int32))] [(.ref b108), (.ref b104)])) (fun t k => XS.aload X110.here hx rfl (hb hby at_191) rfl rfl k) ?_
        have f159 := ((Fn105_0.ext E108).keep Kc110 (ninS (Nat.ne_of_lt (Nat.lt_of_lt_of_le lt_b104_108 (Nat.le_of_eq g108.symm))) nin0))
        have f160 := ((Fn105_1.ext E108).keep Kc110 (ninS (Nat.ne_of_lt (Nat.lt_of_lt_of_le lt_b104_108 (Nat.le_of_eq g108.symm))) nin0))
        have f161 := ((Fn105_2.ext E108).keep Kc110 (ninS (Nat.ne_of_lt (Nat.lt_of_lt_of_le lt_b104_108 (Nat.le_of_eq g108.symm))) nin0))
        have f162 := ((Fn105_3.ext E108).keep Kc110 (ninS (Nat.ne_of_lt (Nat.lt_of_lt_of_le lt_b104_108 (Nat.le_of_eq g108.symm))) nin0))
        have f163 := (A108.keep Kc110)
        have f165 := ((f109.ext E108).keep Kc110)
        obtain ⟨cq164, kq164, q164a, q164b, q164c⟩ := isOf hZ (rfl : T110.heap = T110.heap) f165
        obtain ⟨_, _, ⟨T164, L164, k164, n164⟩, -, X164, ⟨Lc164, hQ164, l164, y164, z164⟩, st164⟩ := X110.virtualBack hx (y := (⟨"com/example/helm_of_panes/helmofpanes/input/InputEvent", "equals", "(Ljava/lang/Object;)Z"⟩ : MethodName)) (z := (⟨"com/example/helm_of_panes/helmofpanes/input/InputEvent", "equals", "(Ljava/lang/Object;)Z"⟩ : MethodName)) hown (mvT hZ (hw _ (List.mem_of_getElem? (i := 20) rfl))) (mvT hZ (hw _ (List.mem_of_getElem? (i := 21) rfl))) (notFace_of_selects (args := #[]) (mvT hZ (hw _ (List.mem_of_getElem? (i := 23) rfl)))) (mvT hZ (hw _ (List.mem_of_getElem? (i := 23) rfl))) (mvT hZ (hw _ (List.mem_of_getElem? (i := 22) rfl))) (by decide) (backOf (W := 0) (own_rm_eqP l Z a0 hw [] b104 b108 ta tb ya da p5 yb db p6 (0 : Int32) T110.heap n0 O110 (Nat.ne_of_lt (Nat.lt_of_lt_of_le lt_b104_108 (Nat.le_of_eq g108.symm))) f163 f159 f160 f161 f162 Fn110_0 Fn110_1 Fn110_2 Fn110_3 (by simp [hc158_111])) hZ (hw _ (List.mem_of_getElem? (i := 24) rfl)) (hw _ (List.mem_of_getElem? (i := 4) rfl)) (by decide) (by decide)) q164a q164c (g := (mkF m 193 #[.val (.long p1), .second, .val (.long p2), .second, .val (.int p3), .val (.int p4), .val (.int p5), .val (.int p6), .val (.long ta), .second, .val (.long tb), .second, .val (.int ya), .val (.int da), .val (.int yb), .val (.int db), .val (.int (0 : Int32)), .val (.int (0 : Int32)), .val (.ref b104), .val (.ref b108), .val (.int (0 : Int32))] [(.ref b108), (.ref b104)])) rfl (by rw [hml]; rfl) (Steps.refl _) (argsL := [(.ref b108)]) (rest := []) (lenOf own_pd_3 rfl) rfl (by show 2 * 0 + _ ≤ _; exact Nat.le_of_eq rfl) (hb hby at_193) (fun _ _ => ⟨rfl, (rfl : T110.heap = T110.heap), (by decide : 2 + 0 ≤ _), (by decide : 8 + 0 ≤ _)⟩)
        dsimp only [Pt.U, Pt.locs, Pt.cells, Pt.slots] at X164 l164 y164 z164 st164 hQ164
        subst l164 y164 z164
        obtain ⟨rfl, N164q, eh164⟩ := hQ164
        have N164 := Fr.app N110 N164q
        refine own_go (B := T164.setTop (mkF m 196 #[.val (.long p1), .second, .val (.long p2), .second, .val (.int p3), .val (.int p4), .val (.int p5), .val (.int p6), .val (.long ta), .second, .val (.long tb), .second, .val (.int ya), .val (.int da), .val (.int yb), .val (.int db), .val (.int (0 : Int32)), .val (.int (0 : Int32)), .val (.ref b104), .val (.ref b108), .val (.int (0 : Int32))] [(.int (0 : Int32))])) (fun t k => st164.trans k) ?_
        refine own_go (B := T164.setTop (mkF m 198 #[.val (.long p1), .second, .val (.long p2), .second, .val (.int p3), .val (.int p4), .val (.int p5), .val (.int p6), .val (.long ta), .second, .val (.long tb), .second, .val (.int ya), .val (.int da), .val (.int yb), .val (.int db), .val (.int (0 : Int32)), .val (.int (0 : Int32)), .val (.ref b104), .val (.ref b108), .val (.int (0 : Int32))] [(.int (0 : Int32)), (.int (0 : Int32))])) (fun t k => XS.iload X164.here hx rfl (hb hby at_196) rfl k) ?_
        refine own_go (B := T164.setTop (mkF m 201 #[.val (.long p1), .second, .val (.long p2), .second, .val (.int p3), .val (.int p4), .val (.int p5), .val (.int p6), .val (.long ta), .second, .val (.long tb), .second, .val (.int ya), .val (.int da), .val (.int yb), .val (.int db), .val (.int (0 : Int32)), .val (.int (0 : Int32)), .val (.ref b104), .val (.ref b108), .val (.int (0 : Int32))] [])) (fun t k => XS.icmpNo X164.here hx rfl (hb hby at_198) rfl (teq (by decide : (0 : Int32) = (0 : Int32))).2 k) ?_
        refine own_go (B := T164.setTop (mkF m 203 #[.val (.long p1), .second, .val (.long p2), .second, .val (.int p3), .val (.int p4), .val (.int p5), .val (.int p6), .val (.long ta), .second, .val (.long tb), .second, .val (.int ya), .val (.int da), .val (.int yb), .val (.int db), .val (.int (0 : Int32)), .val (.int (0 : Int32)), .val (.ref b104), .val (.ref b108), .val (.int (0 : Int32))] [(.ref b108)])) (fun t k => XS.aload X164.here hx rfl (hb hby at_201) rfl rfl k) ?_
        refine own_go (B := T164.setTop (mkF m 205 #[.val (.long p1), .second, .val (.long p2), .second, .val (.int p3), .val (.int p4), .val (.int p5), .val (.int p6), .val (.long ta), .second, .val (.long tb), .second, .val (.int ya), .val (.int da), .val (.int yb), .val (.int db), .val (.int (0 : Int32)), .val (.int (0 : Int32)), .val (.ref b104), .val (.ref b108), .val (.int (0 : Int32))] [(.ref b104), (.ref b108)])) (fun t k => XS.aload X164.here hx rfl (hb hby at_203) rfl rfl k) ?_
        obtain ⟨cq167, kq167, q167a, q167b, q167c⟩ := isOf hZ eh164 f163
        obtain ⟨_, _, ⟨T167, L167, k167, n167⟩, -, X167, ⟨Lc167, hQ167, l167, y167, z167⟩, st167⟩ := X164.virtualBack hx (y := (⟨"com/example/helm_of_panes/helmofpanes/input/InputEvent", "equals", "(Ljava/lang/Object;)Z"⟩ : MethodName)) (z := (⟨"com/example/helm_of_panes/helmofpanes/input/InputEvent", "equals", "(Ljava/lang/Object;)Z"⟩ : MethodName)) hown (mvT hZ (hw _ (List.mem_of_getElem? (i := 20) rfl))) (mvT hZ (hw _ (List.mem_of_getElem? (i := 21) rfl))) (notFace_of_selects (args := #[]) (mvT hZ (hw _ (List.mem_of_getElem? (i := 23) rfl)))) (mvT hZ (hw _ (List.mem_of_getElem? (i := 23) rfl))) (mvT hZ (hw _ (List.mem_of_getElem? (i := 22) rfl))) (by decide) (backOf (W := 0) (own_rm_eqP l Z a0 hw [] b108 b104 tb ta yb db p6 ya da p5 (0 : Int32) T110.heap n0 O110 (Ne.symm (Nat.ne_of_lt (Nat.lt_of_lt_of_le lt_b104_108 (Nat.le_of_eq g108.symm)))) f165 Fn110_0 Fn110_1 Fn110_2 Fn110_3 f159 f160 f161 f162 (by simp [(Ne.symm hc158_111)])) hZ (hw _ (List.mem_of_getElem? (i := 24) rfl)) (hw _ (List.mem_of_getElem? (i := 4) rfl)) (by decide) (by decide)) q167a q167c (g := (mkF m 205 #[.val (.long p1), .second, .val (.long p2), .second, .val (.int p3), .val (.int p4), .val (.int p5), .val (.int p6), .val (.long ta), .second, .val (.long tb), .second, .val (.int ya), .val (.int da), .val (.int yb), .val (.int db), .val (.int (0 : Int32)), .val (.int (0 : Int32)), .val (.ref b104), .val (.ref b108), .val (.int (0 : Int32))] [(.ref b104), (.ref b108)])) rfl (by rw [hml]; rfl) (Steps.refl _) (argsL := [(.ref b104)]) (rest := []) (lenOf own_pd_3 rfl) rfl (by show 2 * 0 + _ ≤ _; exact Nat.le_of_eq rfl) (hb hby at_205) (fun _ _ => ⟨rfl, eh164, (by decide : 2 + 0 ≤ _), (by decide : 8 + 0 ≤ _)⟩)
        dsimp only [Pt.U, Pt.locs, Pt.cells, Pt.slots] at X167 l167 y167 z167 st167 hQ167
        subst l167 y167 z167
        obtain ⟨rfl, N167q, eh167⟩ := hQ167
        have N167 := Fr.app N164 N167q
        refine own_go (B := T167.setTop (mkF m 208 #[.val (.long p1), .second, .val (.long p2), .second, .val (.int p3), .val (.int p4), .val (.int p5), .val (.int p6), .val (.long ta), .second, .val (.long tb), .second, .val (.int ya), .val (.int da), .val (.int yb), .val (.int db), .val (.int (0 : Int32)), .val (.int (0 : Int32)), .val (.ref b104), .val (.ref b108), .val (.int (0 : Int32))] [(.int (0 : Int32))])) (fun t k => st167.trans k) ?_
        refine own_go (B := T167.setTop (mkF m 210 #[.val (.long p1), .second, .val (.long p2), .second, .val (.int p3), .val (.int p4), .val (.int p5), .val (.int p6), .val (.long ta), .second, .val (.long tb), .second, .val (.int ya), .val (.int da), .val (.int yb), .val (.int db), .val (.int (0 : Int32)), .val (.int (0 : Int32)), .val (.ref b104), .val (.ref b108), .val (.int (0 : Int32))] [(.int (0 : Int32)), (.int (0 : Int32))])) (fun t k => XS.iload X167.here hx rfl (hb hby at_208) rfl k) ?_
        refine own_go (B := T167.setTop (mkF m 213 #[.val (.long p1), .second, .val (.long p2), .second, .val (.int p3), .val (.int p4), .val (.int p5), .val (.int p6), .val (.long ta), .second, .val (.long tb), .second, .val (.int ya), .val (.int da), .val (.int yb), .val (.int db), .val (.int (0 : Int32)), .val (.int (0 : Int32)), .val (.ref b104), .val (.ref b108), .val (.int (0 : Int32))] [])) (fun t k => XS.icmpNo X167.here hx rfl (hb hby at_210) rfl (teq (by decide : (0 : Int32) = (0 : Int32))).2 k) ?_
        refine own_go (B := T167.setTop (mkF m 214 #[.val (.long p1), .second, .val (.long p2), .second, .val (.int p3), .val (.int p4), .val (.int p5), .val (.int p6), .val (.long ta), .second, .val (.long tb), .second, .val (.int ya), .val (.int da), .val (.int yb), .val (.int db), .val (.int (0 : Int32)), .val (.int (0 : Int32)), .val (.ref b104), .val (.ref b108), .val (.int (0 : Int32))] [(.int (1 : Int32))])) (fun t k => XS.iconst X167.here hx rfl (hb hby at_213) k) ?_
        refine own_go (B := T167.setTop (mkF m 218 #[.val (.long p1), .second, .val (.long p2), .second, .val (.int p3), .val (.int p4), .val (.int p5), .val (.int p6), .val (.long ta), .second, .val (.long tb), .second, .val (.int ya), .val (.int da), .val (.int yb), .val (.int db), .val (.int (0 : Int32)), .val (.int (0 : Int32)), .val (.ref b104), .val (.ref b108), .val (.int (0 : Int32))] [(.int (1 : Int32))])) (fun t k => XS.goto X167.here hx rfl (pc0 := 214) (pc' := 218) rfl (hb hby at_214) (by decide) (by decide) k) ?_
        obtain ⟨fs, hr, hrun, hended, hW, hsame⟩ := X167.leave (v := some (.int (1 : Int32))) (fun h => by rw [Bd.returns] at h; cases h)
        refine ⟨_, _, retN X167 hx (t := .boolean) Bd.returns (by simp) (hb hby at_218) hr, hK _ _ ⟨hrun, hended, _, _, rfl, ?_, ⟨_, rfl⟩, hW, hsame.mono (by decide) (by decide)⟩⟩
        show own_Q_law Z p1 p2 p3 p4 p5 p6 w_cache cl h0 n0 _ T167.heap _
        rw [eh167]
        exact ⟨rfl, N167⟩
set_option maxRecDepth 65536 in
set_option maxHeartbeats 40000000 in
theorem comes_1 {Post : Tables → Env → Array Value → State → Outcome → State → Prop} (hpost : ∀ tb e args s v u, (limb_1_1.after args s (.returned v) u = true ∧ limb_1_2.after args s (.returned v) u = true ∧ True) → FrameEnd s (.returned v) u (Jvm.fieldLocs frame_1_writes args s ++ Jvm.arrayLocs frame_1_arrays args s ++ Jvm.staticLocs frame_1_statics s) 16 128 → Post tb e args s (.returned v) u) :
    ArmFor flags0 classFile x code maxLocals ret World_1 tables_1 room_1 Calls_1 rest_1 Pre_1 Post := by
  intro l hfl _ _ p e ha hc hk s m args below hf hA hF happ hP
  obtain ⟨hcalls, hrest, hpre⟩ := hP
  obtain ⟨-, -, -, hnamed, -, -, -, hat⟩ := (Spec.applies_iff hf).mp happ
  obtain ⟨hg, hn⟩ := and_e (Cond.before_iff.mp (show (Jvm.Cond.and given_1 narrow_1).before args s = true from hpre))
  obtain ⟨hga, hgb⟩ := and_e hg
  obtain ⟨hgba, hgbb⟩ := and_e hgb
  obtain ⟨hgbba, hgbbb⟩ := and_e hgbb
  obtain ⟨hgbbba, hgbbbb⟩ := and_e hgbbb
  obtain ⟨hgbbbba, hgbbbbb⟩ := and_e hgbbbb
  obtain ⟨hgbbbbba, hgbbbbbb⟩ := and_e hgbbbbb
  obtain ⟨v0, v1, v2, v3, v4, v5, rfl⟩ : ∃ v0 v1 v2 v3 v4 v5 : Value, args = #[v0, v1, v2, v3, v4, v5] := by
    have hs : args.size = 6 := by simpa [Cond.value, given_1] using hga
    obtain ⟨L⟩ := args
    match L, hs with
    | [v0, v1, v2, v3, v4, v5], _ => exact ⟨v0, v1, v2, v3, v4, v5, rfl⟩
  have hw := fun d (hd : d ∈ tables_1) => atoms_spec (ws := Jvm.Cond.code x code maxLocals ret :: tables_1) hat d (List.mem_cons_of_mem _ hd)
  have hfit : Fit s := fun {y c} hc i hi => by
    obtain ⟨ha, rfl⟩ := Array.getElem?_eq_some_iff.mp hc
    have q := List.all_eq_true.mp ((Array.all_eq_true_iff_forall_mem.mp hF) _ (Array.getElem_mem ha)) i (List.mem_range.mpr hi)
    simpa [Array.getElem?_eq_getElem hi] using q
  obtain ⟨hsets, hown0⟩ := atoms_of _ (rest_1_c_eq ▸ (show rest_1_c.before _ s = true from hrest))
  have hr0 := Cond.before_iff.mp hown0
  obtain ⟨p1, ep1⟩ := isL_v hgba
  obtain rfl : v0 = (.long p1) := Option.some.inj ep1
  obtain ⟨p2, ep2⟩ := isL_v hgbba
  obtain rfl : v1 = (.long p2) := Option.some.inj ep2
  obtain ⟨p3, ep3⟩ := is_v hgbbba
  obtain rfl : v2 = (.int p3) := Option.some.inj ep3
  obtain ⟨p4, ep4⟩ := is_v hgbbbba
  obtain rfl : v3 = (.int p4) := Option.some.inj ep4
  obtain ⟨p5, ep5⟩ := is_v hgbbbbba
  obtain rfl : v4 = (.int p5) := Option.some.inj ep5
  obtain ⟨p6, ep6⟩ := is_v hgbbbbbb
  obtain rfl : v5 = (.int p6) := Option.some.inj ep6
  obtain ⟨w_cache, cl, Hc⟩ := own_cache (Z := s) (fun d hd => hsets d hd) (hw _ (List.mem_of_getElem? (i := 50) rfl))
  obtain ⟨n, o, h1, h2, h3, _, L, rfl, ⟨rfl, N⟩, hq⟩ := own_rm_law l s _ hw tables_1 p1 p2 p3 p4 p5 p6 w_cache cl s.heap s.heap.size (Old.start s) Hc p e ha hc hk s m _ below hf ((Spec.applies_iff_loose hf).mp happ).1 ⟨rfl, State.Warmed39.refl s, rfl⟩ trivial
  refine ⟨n, _, h1, h2, h3, hpost _ _ _ _ _ _ ⟨Cond.after_iff.mpr rfl, Cond.after_iff.mpr (eq_i res_at (Term.int_eval (1)) rfl), trivial⟩ ⟨hq.1, hq.2.1, (hq.2.2.sift fun y hy => Or.inr (N y hy)).mono (by decide) (by decide)⟩⟩
theorem main_1_1 : Claimed_1_1 := comes_1 fun _ _ _ _ _ _ h hF => ⟨h.1, hF⟩
theorem main_1_2 : Claimed_1_2 := comes_1 fun _ _ _ _ _ _ h hF => ⟨h.2.1, hF⟩
end Jvm.Pilot.@@N@@
namespace Jvm.Pilot.@@N@@
open Jvm Jvm.ClassFile Sem Op Lib Jvm.Free Jvm.Stand Jvm.Pilot.@@N@@.Jvm.D
/-! MADE BY PROGRAM (witnessworld.py) out of the Statement's table words and the real class files: 16 classes; the members and pool entries that the words name. The judged class is class 1, her method 1. -/
namespace start1
open Jvm.ClassFile
def u (s : String) : CpInfo := .utf8 (stringToUtf16 s)
/-- a pool by its gaps: so many unusable entries, then the entry; so many at the end -/
def gap : Nat → List CpInfo → List CpInfo
  | 0, r => r
  | n + 1, r => .unusable :: gap n r
def poolList (es : List (Nat × CpInfo)) (last : Nat) : List CpInfo := es.foldr (fun e r => gap e.1 (e.2 :: r)) (gap last [])
def pool (es : List (Nat × CpInfo)) (last : Nat) : Array CpInfo := ⟨poolList es last⟩
def fileOf (pool : Array CpInfo) (this : Nat) (attrs : Array Attribute := #[]) (ms : Array MethodInfo := #[]) (fl : Nat := 33) (sup : Nat := 0) (ifs : Array Nat := #[]) (fds : Array FieldInfo := #[]) : ClassFile where
  minorVersion := 0
  majorVersion := 65
  constantPool := pool
  accessFlags := fl
  thisClass := this
  superClass := sup
  interfaces := ifs
  fields := fds
  methods := ms
  attributes := attrs
def plain (name : String) (sup : Option ClassId) : Class where
  name := name
  kind := .ordinary
  loader := none
  accessFlags := 33
  super := sup
  interfaces := #[]
  cf := none
  fields := #[]
  methods := #[]
  instanceTypes := #[]
  staticTypes := #[]
  resolved := #[]
  callSites := []
  init := .initialized
  statics := none
  mirror := none

def pool0 : Array CpInfo := pool [(5, u "<init>"), (0, u "()V"), (1, .class_ 10), (1, u "java/lang/Object")] 113

def k0c0 : Code := { maxStack := 0, maxLocals := 1, code := object_method_1_code, exceptionTable := #[], attributes := #[] }
def k0m0 : Method := { name := "<init>", desc := "()V", sig := { parameters := [], returnType := none }, accessFlags := 1, code := some k0c0 }
/-- java/lang/Object -/
def k0 : Class := { plain "java/lang/Object" none with
  accessFlags := 33
  interfaces := #[]
  cf := some (fileOf pool0 8 #[] #[{ accessFlags := 1, nameIndex := 5, descriptorIndex := 6, attributes := #[] }] 33 0 #[] #[])
  fields := #[]
  methods := #[k0m0]
  instanceTypes := #[]
  staticTypes := #[]
  resolved := Array.replicate 124 none
  statics := none }

def pool1 : Array CpInfo := pool [(2, .class_ 4), (1, u "java/lang/Object"), (0, u "<init>"), (0, u "()V"), (2, .long 9223372036854775807), (1, .integer 65535), (0, .class_ 13), (0, u "com/example/helm_of_panes/helmofpanes/input/InputEvent"), (0, .methodref 12 15), (0, .nameAndType 5 16), (0, u "(JIII)V"), (0, .methodref 18 19), (0, .class_ 20), (0, .nameAndType 21 22), (0, u "java/lang/Integer"), (0, u "valueOf"), (0, u "(I)Ljava/lang/Integer;"), (0, .methodref 12 24), (0, .nameAndType 25 26), (0, u "equals"), (0, u "(Ljava/lang/Object;)Z"), (0, .class_ 28), (0, u "com/example/helm_of_panes/helmofpanes/input/InputEventEqualsPinLaw"), (2, u "law"), (0, u "(JJIIII)Z")] 3

def k1m0 : Method := { name := "<init>", desc := "()V", sig := { parameters := [], returnType := none }, accessFlags := 2, code := none }
def k1c1 : Code := { maxStack := 7, maxLocals := 21, code := code, exceptionTable := #[], attributes := #[] }
def k1m1 : Method := { name := "law", desc := "(JJIIII)Z", sig := { parameters := [.long, .long, .int, .int, .int, .int], returnType := some .boolean }, accessFlags := 9, code := some k1c1 }
/-- com/example/helm_of_panes/helmofpanes/input/InputEventEqualsPinLaw -/
def k1 : Class := { plain "com/example/helm_of_panes/helmofpanes/input/InputEventEqualsPinLaw" (some 0) with
  accessFlags := 49
  interfaces := #[]
  cf := some (fileOf pool1 27 #[] #[{ accessFlags := 2, nameIndex := 5, descriptorIndex := 6, attributes := #[] }, { accessFlags := 9, nameIndex := 31, descriptorIndex := 32, attributes := #[] }] 49 2 #[] #[])
  fields := #[]
  methods := #[k1m0, k1m1]
  instanceTypes := #[]
  staticTypes := #[]
  resolved := Array.replicate 36 none
  statics := none }

def pool2 : Array CpInfo := pool [(1, .methodref 2 3), (0, .class_ 4), (0, .nameAndType 5 6), (0, u "java/lang/Object"), (0, u "<init>"), (0, u "()V"), (0, .class_ 8), (0, u "com/example/helm_of_panes/helmofpanes/input/InputEvent"), (0, .integer 65535), (4, .fieldref 7 15), (0, .nameAndType 16 17), (0, u "timeMicros"), (0, u "J"), (0, .fieldref 7 19), (0, .nameAndType 20 21), (0, u "type"), (0, u "I"), (0, .fieldref 7 23), (0, .nameAndType 24 21), (0, u "code"), (0, .fieldref 7 26), (0, .nameAndType 27 21), (0, u "value"), (44, u "MAX_TYPE_OR_CODE"), (1, u "MICROS_PER_SECOND"), (0, u "(JIII)V"), (11, u "equals"), (0, u "(Ljava/lang/Object;)Z")] 23

def k2c0 : Code := { maxStack := 4, maxLocals := 6, code := prog_25_method_1_code, exceptionTable := #[], attributes := #[] }
def k2m0 : Method := { name := "<init>", desc := "(JIII)V", sig := { parameters := [.long, .int, .int, .int], returnType := none }, accessFlags := 1, code := some k2c0 }
def k2c1 : Code := { maxStack := 4, maxLocals := 3, code := prog_25_method_8_code, exceptionTable := #[], attributes := #[] }
def k2m1 : Method := { name := "equals", desc := "(Ljava/lang/Object;)Z", sig := { parameters := [(.object "java/lang/Object")], returnType := some .boolean }, accessFlags := 1, code := some k2c1 }
/-- com/example/helm_of_panes/helmofpanes/input/InputEvent -/
def k2 : Class := { plain "com/example/helm_of_panes/helmofpanes/input/InputEvent" (some 0) with
  accessFlags := 33
  interfaces := #[]
  cf := some (fileOf pool2 7 #[] #[{ accessFlags := 1, nameIndex := 5, descriptorIndex := 75, attributes := #[] }, { accessFlags := 1, nameIndex := 87, descriptorIndex := 88, attributes := #[] }] 33 2 #[] #[{ accessFlags := 25, nameIndex := 72, descriptorIndex := 21, attributes := #[] }, { accessFlags := 26, nameIndex := 74, descriptorIndex := 17, attributes := #[] }, { accessFlags := 18, nameIndex := 16, descriptorIndex := 17, attributes := #[] }, { accessFlags := 18, nameIndex := 20, descriptorIndex := 21, attributes := #[] }, { accessFlags := 18, nameIndex := 24, descriptorIndex := 21, attributes := #[] }, { accessFlags := 18, nameIndex := 27, descriptorIndex := 21, attributes := #[] }])
  fields := #[{ name := "MAX_TYPE_OR_CODE", type := .int, accessFlags := 25, slot := 0, constantValue := 0 }, { name := "MICROS_PER_SECOND", type := .long, accessFlags := 26, slot := 1, constantValue := 0 }, { name := "timeMicros", type := .long, accessFlags := 18, slot := 0, constantValue := 0 }, { name := "type", type := .int, accessFlags := 18, slot := 1, constantValue := 0 }, { name := "code", type := .int, accessFlags := 18, slot := 2, constantValue := 0 }, { name := "value", type := .int, accessFlags := 18, slot := 3, constantValue := 0 }]
  methods := #[k2m0, k2m1]
  instanceTypes := #[.long, .int, .int, .int]
  staticTypes := #[.int, .long]
  resolved := Array.replicate 112 none
  statics := none }

def pool3 : Array CpInfo := pool [(1, .class_ 2), (0, u "java/io/Serializable"), (0, .class_ 4), (0, u "java/lang/Object")] 2

/-- java/io/Serializable -/
def k3 : Class := { plain "java/io/Serializable" (some 0) with
  accessFlags := 1537
  interfaces := #[]
  cf := some (fileOf pool3 1 #[] #[] 1537 3 #[] #[])
  fields := #[]
  methods := #[]
  instanceTypes := #[]
  staticTypes := #[]
  resolved := Array.replicate 7 none
  statics := none }

def pool4 : Array CpInfo := pool [(1, .methodref 2 3), (0, .class_ 4), (0, .nameAndType 5 6), (0, u "java/lang/Object"), (0, u "<init>"), (0, u "()V"), (1, .class_ 10), (1, u "java/lang/Number"), (2, .class_ 14), (0, u "java/io/Serializable"), (0, u "serialVersionUID"), (0, u "J")] 20

def k4c0 : Code := { maxStack := 1, maxLocals := 1, code := jdk_18_method_1_code, exceptionTable := #[], attributes := #[] }
def k4m0 : Method := { name := "<init>", desc := "()V", sig := { parameters := [], returnType := none }, accessFlags := 1, code := some k4c0 }
/-- java/lang/Number -/
def k4 : Class := { plain "java/lang/Number" (some 0) with
  accessFlags := 1057
  interfaces := #[3]
  cf := some (fileOf pool4 8 #[] #[{ accessFlags := 1, nameIndex := 5, descriptorIndex := 6, attributes := #[] }] 1057 2 #[13] #[{ accessFlags := 26, nameIndex := 15, descriptorIndex := 16, attributes := #[] }])
  fields := #[{ name := "serialVersionUID", type := .long, accessFlags := 26, slot := 0, constantValue := 0 }]
  methods := #[k4m0]
  instanceTypes := #[]
  staticTypes := #[.long]
  resolved := Array.replicate 37 none
  statics := none }

def pool5 : Array CpInfo := pool [(1, .class_ 2), (0, u "java/lang/Comparable"), (0, .class_ 4), (0, u "java/lang/Object")] 7

/-- java/lang/Comparable -/
def k5 : Class := { plain "java/lang/Comparable" (some 0) with
  accessFlags := 1537
  interfaces := #[]
  cf := some (fileOf pool5 1 #[] #[] 1537 3 #[] #[])
  fields := #[]
  methods := #[]
  instanceTypes := #[]
  staticTypes := #[]
  resolved := Array.replicate 12 none
  statics := none }

def pool6 : Array CpInfo := pool [(1, .class_ 2), (0, u "java/lang/constant/Constable"), (0, .class_ 4), (0, u "java/lang/Object")] 6

/-- java/lang/constant/Constable -/
def k6 : Class := { plain "java/lang/constant/Constable" (some 0) with
  accessFlags := 1537
  interfaces := #[]
  cf := some (fileOf pool6 1 #[] #[] 1537 3 #[] #[])
  fields := #[]
  methods := #[]
  instanceTypes := #[]
  staticTypes := #[]
  resolved := Array.replicate 11 none
  statics := none }

def pool7 : Array CpInfo := pool [(1, .class_ 2), (0, u "java/lang/constant/ConstantDesc"), (0, .class_ 4), (0, u "java/lang/Object")] 32

/-- java/lang/constant/ConstantDesc -/
def k7 : Class := { plain "java/lang/constant/ConstantDesc" (some 0) with
  accessFlags := 1537
  interfaces := #[]
  cf := some (fileOf pool7 1 #[] #[] 1537 3 #[] #[])
  fields := #[]
  methods := #[]
  instanceTypes := #[]
  staticTypes := #[]
  resolved := Array.replicate 37 none
  statics := none }

def pool8 : Array CpInfo := pool [(1, .class_ 2), (0, u "java/lang/Integer"), (16, u "digits"), (0, u "[C"), (46, u "<init>"), (17, u "DigitOnes"), (0, u "[B"), (2, u "DigitTens"), (10, .nameAndType 67 101), (0, u "()V"), (85, u "valueOf"), (0, u "(I)Ljava/lang/Integer;"), (0, .class_ 190), (0, u "java/lang/Integer$IntegerCache"), (0, .fieldref 189 192), (0, .nameAndType 193 194), (0, u "high"), (0, u "I"), (0, .fieldref 189 196), (0, .nameAndType 197 198), (0, u "cache"), (0, u "[Ljava/lang/Integer;"), (0, .methodref 1 200), (0, .nameAndType 67 201), (0, u "(I)V"), (0, .methodref 203 100), (0, .class_ 204), (0, u "java/lang/Number"), (0, .fieldref 1 206), (0, .nameAndType 207 194), (0, u "value"), (94, u "TYPE"), (0, u "Ljava/lang/Class;"), (0, .class_ 305), (0, u "java/lang/Comparable"), (0, .class_ 307), (0, u "java/lang/constant/Constable"), (0, .class_ 309), (0, u "java/lang/constant/ConstantDesc"), (0, u "MIN_VALUE"), (1, u "MAX_VALUE"), (3, u "SIZE"), (1, u "BYTES"), (1, u "serialVersionUID"), (0, u "J")] 131

def k8c0 : Code := { maxStack := 3, maxLocals := 1, code := jdk_33_method_22_code, exceptionTable := #[], attributes := #[] }
def k8m0 : Method := { name := "valueOf", desc := "(I)Ljava/lang/Integer;", sig := { parameters := [.int], returnType := some (.object "java/lang/Integer") }, accessFlags := 9, code := some k8c0 }
def k8c1 : Code := { maxStack := 2, maxLocals := 2, code := jdk_33_method_23_code, exceptionTable := #[], attributes := #[] }
def k8m1 : Method := { name := "<init>", desc := "(I)V", sig := { parameters := [.int], returnType := none }, accessFlags := 1, code := some k8c1 }
/-- java/lang/Integer -/
def k8 : Class := { plain "java/lang/Integer" (some 4) with
  accessFlags := 49
  interfaces := #[5, 6, 7]
  cf := some (fileOf pool8 1 #[.nestMembers #[189]] #[{ accessFlags := 9, nameIndex := 187, descriptorIndex := 188, attributes := #[] }, { accessFlags := 1, nameIndex := 67, descriptorIndex := 201, attributes := #[] }] 49 203 #[304, 306, 308] #[{ accessFlags := 25, nameIndex := 310, descriptorIndex := 194, attributes := #[] }, { accessFlags := 25, nameIndex := 312, descriptorIndex := 194, attributes := #[] }, { accessFlags := 25, nameIndex := 302, descriptorIndex := 303, attributes := #[] }, { accessFlags := 24, nameIndex := 19, descriptorIndex := 20, attributes := #[] }, { accessFlags := 24, nameIndex := 89, descriptorIndex := 86, attributes := #[] }, { accessFlags := 24, nameIndex := 85, descriptorIndex := 86, attributes := #[] }, { accessFlags := 18, nameIndex := 207, descriptorIndex := 194, attributes := #[] }, { accessFlags := 25, nameIndex := 316, descriptorIndex := 194, attributes := #[] }, { accessFlags := 25, nameIndex := 318, descriptorIndex := 194, attributes := #[] }, { accessFlags := 26, nameIndex := 320, descriptorIndex := 321, attributes := #[] }])
  fields := #[{ name := "MIN_VALUE", type := .int, accessFlags := 25, slot := 0, constantValue := 0 }, { name := "MAX_VALUE", type := .int, accessFlags := 25, slot := 1, constantValue := 0 }, { name := "TYPE", type := (.object "java/lang/Class"), accessFlags := 25, slot := 2, constantValue := 0 }, { name := "digits", type := (.array .char), accessFlags := 24, slot := 3, constantValue := 0 }, { name := "DigitTens", type := (.array .byte), accessFlags := 24, slot := 4, constantValue := 0 }, { name := "DigitOnes", type := (.array .byte), accessFlags := 24, slot := 5, constantValue := 0 }, { name := "value", type := .int, accessFlags := 18, slot := 0, constantValue := 0 }, { name := "SIZE", type := .int, accessFlags := 25, slot := 6, constantValue := 0 }, { name := "BYTES", type := .int, accessFlags := 25, slot := 7, constantValue := 0 }, { name := "serialVersionUID", type := .long, accessFlags := 26, slot := 8, constantValue := 0 }]
  methods := #[k8m0, k8m1]
  instanceTypes := #[.int]
  staticTypes := #[.int, .int, (.object "java/lang/Class"), (.array .char), (.array .byte), (.array .byte), .int, .int, .long]
  resolved := Array.replicate 453 none
  statics := none }

def pool9 : Array CpInfo := pool [(2, .class_ 4), (1, u "java/lang/Object"), (0, u "<init>"), (0, u "()V"), (0, .class_ 8), (0, u "java/lang/Integer"), (7, .class_ 18), (1, u "java/lang/Integer$IntegerCache"), (0, u "$assertionsDisabled"), (0, u "Z"), (26, u "high"), (0, u "I"), (8, u "archivedCache"), (0, u "[Ljava/lang/Integer;"), (12, u "cache"), (0, u "low")] 27

def k9m0 : Method := { name := "<init>", desc := "()V", sig := { parameters := [], returnType := none }, accessFlags := 2, code := none }
/-- java/lang/Integer$IntegerCache -/
def k9 : Class := { plain "java/lang/Integer$IntegerCache" (some 0) with
  accessFlags := 48
  interfaces := #[]
  cf := some (fileOf pool9 16 #[.nestHost 7] #[{ accessFlags := 2, nameIndex := 5, descriptorIndex := 6, attributes := #[] }] 48 2 #[] #[{ accessFlags := 24, nameIndex := 72, descriptorIndex := 48, attributes := #[] }, { accessFlags := 24, nameIndex := 47, descriptorIndex := 48, attributes := #[] }, { accessFlags := 24, nameIndex := 71, descriptorIndex := 58, attributes := #[] }, { accessFlags := 8, nameIndex := 57, descriptorIndex := 58, attributes := #[] }, { accessFlags := 4120, nameIndex := 19, descriptorIndex := 20, attributes := #[] }])
  fields := #[{ name := "low", type := .int, accessFlags := 24, slot := 0, constantValue := 0 }, { name := "high", type := .int, accessFlags := 24, slot := 1, constantValue := 0 }, { name := "cache", type := (.array (.object "java/lang/Integer")), accessFlags := 24, slot := 2, constantValue := 0 }, { name := "archivedCache", type := (.array (.object "java/lang/Integer")), accessFlags := 8, slot := 3, constantValue := 0 }, { name := "$assertionsDisabled", type := .boolean, accessFlags := 4120, slot := 4, constantValue := 0 }]
  methods := #[k9m0]
  instanceTypes := #[]
  staticTypes := #[.int, .int, (.array (.object "java/lang/Integer")), (.array (.object "java/lang/Integer")), .boolean]
  resolved := Array.replicate 100 none
  statics := some 0 }

def pool10 : Array CpInfo := pool [(1, u "java/lang/Cloneable"), (0, .class_ 1), (0, u "java/lang/Object"), (0, .class_ 3)] 3

/-- java/lang/Cloneable -/
def k10 : Class := { plain "java/lang/Cloneable" (some 0) with
  accessFlags := 1537
  interfaces := #[]
  cf := some (fileOf pool10 2 #[] #[] 1537 4 #[] #[])
  fields := #[]
  methods := #[]
  instanceTypes := #[]
  staticTypes := #[]
  resolved := Array.replicate 8 none
  statics := none }

/-- the primitive byte -/
def k11 : Class := { plain "byte" none with kind := .primitive 'B', accessFlags := 0x411 }
/-- [B -/
def k12 : Class := { plain "[B" (some 0) with kind := .array 11 .byte, interfaces := #[10, 3], accessFlags := 1041 }

/-- the primitive int -/
def k13 : Class := { plain "int" none with kind := .primitive 'I', accessFlags := 0x411 }
/-- [I -/
def k14 : Class := { plain "[I" (some 0) with kind := .array 13 .int, interfaces := #[10, 3], accessFlags := 1041 }

/-- [Ljava/lang/Integer; -/
def k15 : Class := { plain "[Ljava/lang/Integer;" (some 0) with kind := .array 8 (.object "java/lang/Integer"), interfaces := #[10, 3], accessFlags := 1041 }

def heap : Heap := #[{ cls := 9, slots := #[.int 0, .int 127, .ref 1, .null, .int 0], vm := .statics 9 },
  { cls := 15, slots := #[.ref 2, .ref 3, .ref 4, .ref 5, .ref 6, .ref 7, .ref 8, .ref 9, .ref 10, .ref 11, .ref 12, .ref 13, .ref 14, .ref 15, .ref 16, .ref 17, .ref 18, .ref 19, .ref 20, .ref 21, .ref 22, .ref 23, .ref 24, .ref 25, .ref 26, .ref 27, .ref 28, .ref 29, .ref 30, .ref 31, .ref 32, .ref 33, .ref 34, .ref 35, .ref 36, .ref 37, .ref 38, .ref 39, .ref 40, .ref 41, .ref 42, .ref 43, .ref 44, .ref 45, .ref 46, .ref 47, .ref 48, .ref 49, .ref 50, .ref 51, .ref 52, .ref 53, .ref 54, .ref 55, .ref 56, .ref 57, .ref 58, .ref 59, .ref 60, .ref 61, .ref 62, .ref 63, .ref 64, .ref 65, .ref 66, .ref 67, .ref 68, .ref 69, .ref 70, .ref 71, .ref 72, .ref 73, .ref 74, .ref 75, .ref 76, .ref 77, .ref 78, .ref 79, .ref 80, .ref 81, .ref 82, .ref 83, .ref 84, .ref 85, .ref 86, .ref 87, .ref 88, .ref 89, .ref 90, .ref 91, .ref 92, .ref 93, .ref 94, .ref 95, .ref 96, .ref 97, .ref 98, .ref 99, .ref 100, .ref 101, .ref 102, .ref 103, .ref 104, .ref 105, .ref 106, .ref 107, .ref 108, .ref 109, .ref 110, .ref 111, .ref 112, .ref 113, .ref 114, .ref 115, .ref 116, .ref 117, .ref 118, .ref 119, .ref 120, .ref 121, .ref 122, .ref 123, .ref 124, .ref 125, .ref 126, .ref 127, .ref 128, .ref 129, .ref 130, .ref 131, .ref 132, .ref 133, .ref 134, .ref 135, .ref 136, .ref 137, .ref 138, .ref 139, .ref 140, .ref 141, .ref 142, .ref 143, .ref 144, .ref 145, .ref 146, .ref 147, .ref 148, .ref 149, .ref 150, .ref 151, .ref 152, .ref 153, .ref 154, .ref 155, .ref 156, .ref 157, .ref 158, .ref 159, .ref 160, .ref 161, .ref 162, .ref 163, .ref 164, .ref 165, .ref 166, .ref 167, .ref 168, .ref 169, .ref 170, .ref 171, .ref 172, .ref 173, .ref 174, .ref 175, .ref 176, .ref 177, .ref 178, .ref 179, .ref 180, .ref 181, .ref 182, .ref 183, .ref 184, .ref 185, .ref 186, .ref 187, .ref 188, .ref 189, .ref 190, .ref 191, .ref 192, .ref 193, .ref 194, .ref 195, .ref 196, .ref 197, .ref 198, .ref 199, .ref 200, .ref 201, .ref 202, .ref 203, .ref 204, .ref 205, .ref 206, .ref 207, .ref 208, .ref 209, .ref 210, .ref 211, .ref 212, .ref 213, .ref 214, .ref 215, .ref 216, .ref 217, .ref 218, .ref 219, .ref 220, .ref 221, .ref 222, .ref 223, .ref 224, .ref 225, .ref 226, .ref 227, .ref 228, .ref 229, .ref 230, .ref 231, .ref 232, .ref 233, .ref 234, .ref 235, .ref 236, .ref 237, .ref 238, .ref 239, .ref 240, .ref 241, .ref 242, .ref 243, .ref 244, .ref 245, .ref 246, .ref 247, .ref 248, .ref 249, .ref 250, .ref 251, .ref 252, .ref 253, .ref 254, .ref 255, .ref 256, .ref 257], vm := .none },
  { cls := 8, slots := #[.int (-128)], vm := .none },
  { cls := 8, slots := #[.int (-127)], vm := .none },
  { cls := 8, slots := #[.int (-126)], vm := .none },
  { cls := 8, slots := #[.int (-125)], vm := .none },
  { cls := 8, slots := #[.int (-124)], vm := .none },
  { cls := 8, slots := #[.int (-123)], vm := .none },
  { cls := 8, slots := #[.int (-122)], vm := .none },
  { cls := 8, slots := #[.int (-121)], vm := .none },
  { cls := 8, slots := #[.int (-120)], vm := .none },
  { cls := 8, slots := #[.int (-119)], vm := .none },
  { cls := 8, slots := #[.int (-118)], vm := .none },
  { cls := 8, slots := #[.int (-117)], vm := .none },
  { cls := 8, slots := #[.int (-116)], vm := .none },
  { cls := 8, slots := #[.int (-115)], vm := .none },
  { cls := 8, slots := #[.int (-114)], vm := .none },
  { cls := 8, slots := #[.int (-113)], vm := .none },
  { cls := 8, slots := #[.int (-112)], vm := .none },
  { cls := 8, slots := #[.int (-111)], vm := .none },
  { cls := 8, slots := #[.int (-110)], vm := .none },
  { cls := 8, slots := #[.int (-109)], vm := .none },
  { cls := 8, slots := #[.int (-108)], vm := .none },
  { cls := 8, slots := #[.int (-107)], vm := .none },
  { cls := 8, slots := #[.int (-106)], vm := .none },
  { cls := 8, slots := #[.int (-105)], vm := .none },
  { cls := 8, slots := #[.int (-104)], vm := .none },
  { cls := 8, slots := #[.int (-103)], vm := .none },
  { cls := 8, slots := #[.int (-102)], vm := .none },
  { cls := 8, slots := #[.int (-101)], vm := .none },
  { cls := 8, slots := #[.int (-100)], vm := .none },
  { cls := 8, slots := #[.int (-99)], vm := .none },
  { cls := 8, slots := #[.int (-98)], vm := .none },
  { cls := 8, slots := #[.int (-97)], vm := .none },
  { cls := 8, slots := #[.int (-96)], vm := .none },
  { cls := 8, slots := #[.int (-95)], vm := .none },
  { cls := 8, slots := #[.int (-94)], vm := .none },
  { cls := 8, slots := #[.int (-93)], vm := .none },
  { cls := 8, slots := #[.int (-92)], vm := .none },
  { cls := 8, slots := #[.int (-91)], vm := .none },
  { cls := 8, slots := #[.int (-90)], vm := .none },
  { cls := 8, slots := #[.int (-89)], vm := .none },
  { cls := 8, slots := #[.int (-88)], vm := .none },
  { cls := 8, slots := #[.int (-87)], vm := .none },
  { cls := 8, slots := #[.int (-86)], vm := .none },
  { cls := 8, slots := #[.int (-85)], vm := .none },
  { cls := 8, slots := #[.int (-84)], vm := .none },
  { cls := 8, slots := #[.int (-83)], vm := .none },
  { cls := 8, slots := #[.int (-82)], vm := .none },
  { cls := 8, slots := #[.int (-81)], vm := .none },
  { cls := 8, slots := #[.int (-80)], vm := .none },
  { cls := 8, slots := #[.int (-79)], vm := .none },
  { cls := 8, slots := #[.int (-78)], vm := .none },
  { cls := 8, slots := #[.int (-77)], vm := .none },
  { cls := 8, slots := #[.int (-76)], vm := .none },
  { cls := 8, slots := #[.int (-75)], vm := .none },
  { cls := 8, slots := #[.int (-74)], vm := .none },
  { cls := 8, slots := #[.int (-73)], vm := .none },
  { cls := 8, slots := #[.int (-72)], vm := .none },
  { cls := 8, slots := #[.int (-71)], vm := .none },
  { cls := 8, slots := #[.int (-70)], vm := .none },
  { cls := 8, slots := #[.int (-69)], vm := .none },
  { cls := 8, slots := #[.int (-68)], vm := .none },
  { cls := 8, slots := #[.int (-67)], vm := .none },
  { cls := 8, slots := #[.int (-66)], vm := .none },
  { cls := 8, slots := #[.int (-65)], vm := .none },
  { cls := 8, slots := #[.int (-64)], vm := .none },
  { cls := 8, slots := #[.int (-63)], vm := .none },
  { cls := 8, slots := #[.int (-62)], vm := .none },
  { cls := 8, slots := #[.int (-61)], vm := .none },
  { cls := 8, slots := #[.int (-60)], vm := .none },
  { cls := 8, slots := #[.int (-59)], vm := .none },
  { cls := 8, slots := #[.int (-58)], vm := .none },
  { cls := 8, slots := #[.int (-57)], vm := .none },
  { cls := 8, slots := #[.int (-56)], vm := .none },
  { cls := 8, slots := #[.int (-55)], vm := .none },
  { cls := 8, slots := #[.int (-54)], vm := .none },
  { cls := 8, slots := #[.int (-53)], vm := .none },
  { cls := 8, slots := #[.int (-52)], vm := .none },
  { cls := 8, slots := #[.int (-51)], vm := .none },
  { cls := 8, slots := #[.int (-50)], vm := .none },
  { cls := 8, slots := #[.int (-49)], vm := .none },
  { cls := 8, slots := #[.int (-48)], vm := .none },
  { cls := 8, slots := #[.int (-47)], vm := .none },
  { cls := 8, slots := #[.int (-46)], vm := .none },
  { cls := 8, slots := #[.int (-45)], vm := .none },
  { cls := 8, slots := #[.int (-44)], vm := .none },
  { cls := 8, slots := #[.int (-43)], vm := .none },
  { cls := 8, slots := #[.int (-42)], vm := .none },
  { cls := 8, slots := #[.int (-41)], vm := .none },
  { cls := 8, slots := #[.int (-40)], vm := .none },
  { cls := 8, slots := #[.int (-39)], vm := .none },
  { cls := 8, slots := #[.int (-38)], vm := .none },
  { cls := 8, slots := #[.int (-37)], vm := .none },
  { cls := 8, slots := #[.int (-36)], vm := .none },
  { cls := 8, slots := #[.int (-35)], vm := .none },
  { cls := 8, slots := #[.int (-34)], vm := .none },
  { cls := 8, slots := #[.int (-33)], vm := .none },
  { cls := 8, slots := #[.int (-32)], vm := .none },
  { cls := 8, slots := #[.int (-31)], vm := .none },
  { cls := 8, slots := #[.int (-30)], vm := .none },
  { cls := 8, slots := #[.int (-29)], vm := .none },
  { cls := 8, slots := #[.int (-28)], vm := .none },
  { cls := 8, slots := #[.int (-27)], vm := .none },
  { cls := 8, slots := #[.int (-26)], vm := .none },
  { cls := 8, slots := #[.int (-25)], vm := .none },
  { cls := 8, slots := #[.int (-24)], vm := .none },
  { cls := 8, slots := #[.int (-23)], vm := .none },
  { cls := 8, slots := #[.int (-22)], vm := .none },
  { cls := 8, slots := #[.int (-21)], vm := .none },
  { cls := 8, slots := #[.int (-20)], vm := .none },
  { cls := 8, slots := #[.int (-19)], vm := .none },
  { cls := 8, slots := #[.int (-18)], vm := .none },
  { cls := 8, slots := #[.int (-17)], vm := .none },
  { cls := 8, slots := #[.int (-16)], vm := .none },
  { cls := 8, slots := #[.int (-15)], vm := .none },
  { cls := 8, slots := #[.int (-14)], vm := .none },
  { cls := 8, slots := #[.int (-13)], vm := .none },
  { cls := 8, slots := #[.int (-12)], vm := .none },
  { cls := 8, slots := #[.int (-11)], vm := .none },
  { cls := 8, slots := #[.int (-10)], vm := .none },
  { cls := 8, slots := #[.int (-9)], vm := .none },
  { cls := 8, slots := #[.int (-8)], vm := .none },
  { cls := 8, slots := #[.int (-7)], vm := .none },
  { cls := 8, slots := #[.int (-6)], vm := .none },
  { cls := 8, slots := #[.int (-5)], vm := .none },
  { cls := 8, slots := #[.int (-4)], vm := .none },
  { cls := 8, slots := #[.int (-3)], vm := .none },
  { cls := 8, slots := #[.int (-2)], vm := .none },
  { cls := 8, slots := #[.int (-1)], vm := .none },
  { cls := 8, slots := #[.int (0)], vm := .none },
  { cls := 8, slots := #[.int (1)], vm := .none },
  { cls := 8, slots := #[.int (2)], vm := .none },
  { cls := 8, slots := #[.int (3)], vm := .none },
  { cls := 8, slots := #[.int (4)], vm := .none },
  { cls := 8, slots := #[.int (5)], vm := .none },
  { cls := 8, slots := #[.int (6)], vm := .none },
  { cls := 8, slots := #[.int (7)], vm := .none },
  { cls := 8, slots := #[.int (8)], vm := .none },
  { cls := 8, slots := #[.int (9)], vm := .none },
  { cls := 8, slots := #[.int (10)], vm := .none },
  { cls := 8, slots := #[.int (11)], vm := .none },
  { cls := 8, slots := #[.int (12)], vm := .none },
  { cls := 8, slots := #[.int (13)], vm := .none },
  { cls := 8, slots := #[.int (14)], vm := .none },
  { cls := 8, slots := #[.int (15)], vm := .none },
  { cls := 8, slots := #[.int (16)], vm := .none },
  { cls := 8, slots := #[.int (17)], vm := .none },
  { cls := 8, slots := #[.int (18)], vm := .none },
  { cls := 8, slots := #[.int (19)], vm := .none },
  { cls := 8, slots := #[.int (20)], vm := .none },
  { cls := 8, slots := #[.int (21)], vm := .none },
  { cls := 8, slots := #[.int (22)], vm := .none },
  { cls := 8, slots := #[.int (23)], vm := .none },
  { cls := 8, slots := #[.int (24)], vm := .none },
  { cls := 8, slots := #[.int (25)], vm := .none },
  { cls := 8, slots := #[.int (26)], vm := .none },
  { cls := 8, slots := #[.int (27)], vm := .none },
  { cls := 8, slots := #[.int (28)], vm := .none },
  { cls := 8, slots := #[.int (29)], vm := .none },
  { cls := 8, slots := #[.int (30)], vm := .none },
  { cls := 8, slots := #[.int (31)], vm := .none },
  { cls := 8, slots := #[.int (32)], vm := .none },
  { cls := 8, slots := #[.int (33)], vm := .none },
  { cls := 8, slots := #[.int (34)], vm := .none },
  { cls := 8, slots := #[.int (35)], vm := .none },
  { cls := 8, slots := #[.int (36)], vm := .none },
  { cls := 8, slots := #[.int (37)], vm := .none },
  { cls := 8, slots := #[.int (38)], vm := .none },
  { cls := 8, slots := #[.int (39)], vm := .none },
  { cls := 8, slots := #[.int (40)], vm := .none },
  { cls := 8, slots := #[.int (41)], vm := .none },
  { cls := 8, slots := #[.int (42)], vm := .none },
  { cls := 8, slots := #[.int (43)], vm := .none },
  { cls := 8, slots := #[.int (44)], vm := .none },
  { cls := 8, slots := #[.int (45)], vm := .none },
  { cls := 8, slots := #[.int (46)], vm := .none },
  { cls := 8, slots := #[.int (47)], vm := .none },
  { cls := 8, slots := #[.int (48)], vm := .none },
  { cls := 8, slots := #[.int (49)], vm := .none },
  { cls := 8, slots := #[.int (50)], vm := .none },
  { cls := 8, slots := #[.int (51)], vm := .none },
  { cls := 8, slots := #[.int (52)], vm := .none },
  { cls := 8, slots := #[.int (53)], vm := .none },
  { cls := 8, slots := #[.int (54)], vm := .none },
  { cls := 8, slots := #[.int (55)], vm := .none },
  { cls := 8, slots := #[.int (56)], vm := .none },
  { cls := 8, slots := #[.int (57)], vm := .none },
  { cls := 8, slots := #[.int (58)], vm := .none },
  { cls := 8, slots := #[.int (59)], vm := .none },
  { cls := 8, slots := #[.int (60)], vm := .none },
  { cls := 8, slots := #[.int (61)], vm := .none },
  { cls := 8, slots := #[.int (62)], vm := .none },
  { cls := 8, slots := #[.int (63)], vm := .none },
  { cls := 8, slots := #[.int (64)], vm := .none },
  { cls := 8, slots := #[.int (65)], vm := .none },
  { cls := 8, slots := #[.int (66)], vm := .none },
  { cls := 8, slots := #[.int (67)], vm := .none },
  { cls := 8, slots := #[.int (68)], vm := .none },
  { cls := 8, slots := #[.int (69)], vm := .none },
  { cls := 8, slots := #[.int (70)], vm := .none },
  { cls := 8, slots := #[.int (71)], vm := .none },
  { cls := 8, slots := #[.int (72)], vm := .none },
  { cls := 8, slots := #[.int (73)], vm := .none },
  { cls := 8, slots := #[.int (74)], vm := .none },
  { cls := 8, slots := #[.int (75)], vm := .none },
  { cls := 8, slots := #[.int (76)], vm := .none },
  { cls := 8, slots := #[.int (77)], vm := .none },
  { cls := 8, slots := #[.int (78)], vm := .none },
  { cls := 8, slots := #[.int (79)], vm := .none },
  { cls := 8, slots := #[.int (80)], vm := .none },
  { cls := 8, slots := #[.int (81)], vm := .none },
  { cls := 8, slots := #[.int (82)], vm := .none },
  { cls := 8, slots := #[.int (83)], vm := .none },
  { cls := 8, slots := #[.int (84)], vm := .none },
  { cls := 8, slots := #[.int (85)], vm := .none },
  { cls := 8, slots := #[.int (86)], vm := .none },
  { cls := 8, slots := #[.int (87)], vm := .none },
  { cls := 8, slots := #[.int (88)], vm := .none },
  { cls := 8, slots := #[.int (89)], vm := .none },
  { cls := 8, slots := #[.int (90)], vm := .none },
  { cls := 8, slots := #[.int (91)], vm := .none },
  { cls := 8, slots := #[.int (92)], vm := .none },
  { cls := 8, slots := #[.int (93)], vm := .none },
  { cls := 8, slots := #[.int (94)], vm := .none },
  { cls := 8, slots := #[.int (95)], vm := .none },
  { cls := 8, slots := #[.int (96)], vm := .none },
  { cls := 8, slots := #[.int (97)], vm := .none },
  { cls := 8, slots := #[.int (98)], vm := .none },
  { cls := 8, slots := #[.int (99)], vm := .none },
  { cls := 8, slots := #[.int (100)], vm := .none },
  { cls := 8, slots := #[.int (101)], vm := .none },
  { cls := 8, slots := #[.int (102)], vm := .none },
  { cls := 8, slots := #[.int (103)], vm := .none },
  { cls := 8, slots := #[.int (104)], vm := .none },
  { cls := 8, slots := #[.int (105)], vm := .none },
  { cls := 8, slots := #[.int (106)], vm := .none },
  { cls := 8, slots := #[.int (107)], vm := .none },
  { cls := 8, slots := #[.int (108)], vm := .none },
  { cls := 8, slots := #[.int (109)], vm := .none },
  { cls := 8, slots := #[.int (110)], vm := .none },
  { cls := 8, slots := #[.int (111)], vm := .none },
  { cls := 8, slots := #[.int (112)], vm := .none },
  { cls := 8, slots := #[.int (113)], vm := .none },
  { cls := 8, slots := #[.int (114)], vm := .none },
  { cls := 8, slots := #[.int (115)], vm := .none },
  { cls := 8, slots := #[.int (116)], vm := .none },
  { cls := 8, slots := #[.int (117)], vm := .none },
  { cls := 8, slots := #[.int (118)], vm := .none },
  { cls := 8, slots := #[.int (119)], vm := .none },
  { cls := 8, slots := #[.int (120)], vm := .none },
  { cls := 8, slots := #[.int (121)], vm := .none },
  { cls := 8, slots := #[.int (122)], vm := .none },
  { cls := 8, slots := #[.int (123)], vm := .none },
  { cls := 8, slots := #[.int (124)], vm := .none },
  { cls := 8, slots := #[.int (125)], vm := .none },
  { cls := 8, slots := #[.int (126)], vm := .none },
  { cls := 8, slots := #[.int (127)], vm := .none }]
def classes : Array Class := #[k0, k1, k2, k3, k4, k5, k6, k7, k8, k9, k10, k11, k12, k13, k14, k15]
def interned : List (Array UInt16 × Addr) := []
def slotsUsed : Nat := 517
def theMethod : MethodId := ⟨1, 1⟩
def args0 : Array Value := #[.long 5, .long 6, .int 7, .int 8, .int 1, .int 2]
def aboutOver (below : List Frame) : State where
  vm := { classes := classes, interned := interned.toArray }
  heap := heap
  slotsUsed := slotsUsed
  threads := #[{ frames := .invoking theMethod args0 :: below }]
def below0 : List Frame := [.native { method := ⟨0, 0⟩, args := #[] }]
def about1 : State := aboutOver below0
def p0 : Program := .bare "" "" ""
def e0 : Env := launch0.env 0 0 0
theorem w_frames : about1.frames = Frame.invoking theMethod args0 :: below0 := rfl
set_option maxRecDepth 65536 in
theorem w_args : argsFit about1.vm theMethod args0 = true := by decide +kernel
set_option maxRecDepth 65536 in
theorem w_heap : heapFits about1 = true := by decide +kernel
set_option maxRecDepth 65536 in
theorem w_runnable : about1.curStatus? = some .runnable := by decide +kernel
set_option maxRecDepth 65536 in
theorem w_alone : about1.alone = true := by decide +kernel
set_option maxRecDepth 65536 in
theorem w_named : about1.methodNamed? x = some theMethod := by decide +kernel
set_option maxRecDepth 65536 in
theorem w_hears : about1.hears theMethod below0 = true := by decide +kernel
set_option maxRecDepth 65536 in
theorem w_ripe : about1.ripe theMethod args0 below0 = true := by decide +kernel
theorem w_running : about1.status = .running := rfl
set_option maxRecDepth 65536 in
theorem w_room : about1.hasRoom e0.platform room_1 = true :=
  launch0.hasRoom_least _ room_1 (by decide +kernel) (by decide +kernel) (by decide +kernel) (by decide +kernel) (by decide +kernel) (by decide +kernel)
theorem allAtoms_all (ts : List Jvm.Cond) (a : Array Jvm.Value) (st : Jvm.State) : (allAtoms ts).before a st = ts.all (fun c => c.before a st) := by
  induction ts with
  | nil => rfl
  | cons c t ih =>
    show (Jvm.Cond.and c (allAtoms t)).before a st = _
    rw [Jvm.Cond.before_and, ih, List.all_cons]
def words1 : List Jvm.Cond := Jvm.Cond.code x code maxLocals ret :: tables_1
/-- a 'code' word, met by the world's own term for the bytes: nothing is compared byte by byte -/
theorem code_word {y : MethodName} {bytes : ByteArray} {mx : Nat} {rt : Option FieldType} {a : Array Value} {s : State} {m : MethodId} {meth : Method} {c : Code} (h1 : s.methodNamed? y = some m) (h2 : s.vm.method? m = some meth) (h3 : meth.code = some c) (h4 : c.code = bytes)
    (h5 : (c.maxLocals == mx && c.exceptionTable.isEmpty && decide (c.maxStack ≤ mostOperands) && decide (meth.sig.returnType = rt) && !meth.locks && decide (parseMethodDescriptor y.desc = some meth.sig)) = true) : (Jvm.Cond.code y bytes mx rt).before a s = true := by
  simp only [Bool.and_eq_true, beq_iff_eq, Bool.not_eq_true', decide_eq_true_eq] at h5
  obtain ⟨⟨⟨⟨⟨g1, g2⟩, g3⟩, g4⟩, g5⟩, g6⟩ := h5
  simp [Cond.before, Cond.holds, Cond.value, h1, h2, h3, h4, g1, g2, g3, g4, g5, g6]
def isCode : Jvm.Cond → Bool
  | .code _ _ _ _ => true
  | _ => false
theorem all_split {L : List Jvm.Cond} {P : Jvm.Cond → Bool} (h1 : L.all (fun c => isCode c || P c) = true) (h2 : ∀ c ∈ L.filter isCode, P c = true) : L.all P = true := by
  refine List.all_eq_true.mpr fun c hc => ?_
  have h := List.all_eq_true.mp h1 c hc
  rcases Bool.eq_false_or_eq_true (isCode c) with hi | hi
  · exact h2 c (List.mem_filter.mpr ⟨hc, hi⟩)
  · simpa [hi] using h
set_option maxRecDepth 65536 in
theorem w_c0 : (Jvm.Cond.code x code maxLocals ret).before args0 about1 = true := code_word (m := ⟨1, 1⟩) (meth := k1m1) (c := k1c1) (by decide +kernel) rfl rfl rfl (by decide +kernel)
set_option maxRecDepth 65536 in
theorem w_c1 : (Jvm.Cond.code ({ cls := "com/example/helm_of_panes/helmofpanes/input/InputEvent", name := "<init>", desc := "(JIII)V" } : Jvm.MethodName) prog_25_method_1_code (6 : Nat) (Option.none : Option Jvm.ClassFile.FieldType)).before args0 about1 = true := code_word (m := ⟨2, 0⟩) (meth := k2m0) (c := k2c0) (by decide +kernel) rfl rfl rfl (by decide +kernel)
set_option maxRecDepth 65536 in
theorem w_c2 : (Jvm.Cond.code ({ cls := "java/lang/Object", name := "<init>", desc := "()V" } : Jvm.MethodName) object_method_1_code (1 : Nat) (Option.none : Option Jvm.ClassFile.FieldType)).before args0 about1 = true := code_word (m := ⟨0, 0⟩) (meth := k0m0) (c := k0c0) (by decide +kernel) rfl rfl rfl (by decide +kernel)
set_option maxRecDepth 65536 in
theorem w_c3 : (Jvm.Cond.code ({ cls := "com/example/helm_of_panes/helmofpanes/input/InputEvent", name := "equals", desc := "(Ljava/lang/Object;)Z" } : Jvm.MethodName) prog_25_method_8_code (3 : Nat) (Option.some Jvm.ClassFile.FieldType.boolean)).before args0 about1 = true := code_word (m := ⟨2, 1⟩) (meth := k2m1) (c := k2c1) (by decide +kernel) rfl rfl rfl (by decide +kernel)
set_option maxRecDepth 65536 in
theorem w_c4 : (Jvm.Cond.code ({ cls := "java/lang/Integer", name := "valueOf", desc := "(I)Ljava/lang/Integer;" } : Jvm.MethodName) jdk_33_method_22_code (1 : Nat) (Option.some (Jvm.ClassFile.FieldType.object "java/lang/Integer"))).before args0 about1 = true := code_word (m := ⟨8, 0⟩) (meth := k8m0) (c := k8c0) (by decide +kernel) rfl rfl rfl (by decide +kernel)
set_option maxRecDepth 65536 in
theorem w_c5 : (Jvm.Cond.code ({ cls := "java/lang/Integer", name := "<init>", desc := "(I)V" } : Jvm.MethodName) jdk_33_method_23_code (2 : Nat) (Option.none : Option Jvm.ClassFile.FieldType)).before args0 about1 = true := code_word (m := ⟨8, 1⟩) (meth := k8m1) (c := k8c1) (by decide +kernel) rfl rfl rfl (by decide +kernel)
set_option maxRecDepth 65536 in
theorem w_c6 : (Jvm.Cond.code ({ cls := "java/lang/Number", name := "<init>", desc := "()V" } : Jvm.MethodName) jdk_18_method_1_code (1 : Nat) (Option.none : Option Jvm.ClassFile.FieldType)).before args0 about1 = true := code_word (m := ⟨4, 0⟩) (meth := k4m0) (c := k4c0) (by decide +kernel) rfl rfl rfl (by decide +kernel)
def codes1 : List Jvm.Cond := [Jvm.Cond.code x code maxLocals ret, Jvm.Cond.code ({ cls := "com/example/helm_of_panes/helmofpanes/input/InputEvent", name := "<init>", desc := "(JIII)V" } : Jvm.MethodName) prog_25_method_1_code (6 : Nat) (Option.none : Option Jvm.ClassFile.FieldType), Jvm.Cond.code ({ cls := "java/lang/Object", name := "<init>", desc := "()V" } : Jvm.MethodName) object_method_1_code (1 : Nat) (Option.none : Option Jvm.ClassFile.FieldType), Jvm.Cond.code ({ cls := "com/example/helm_of_panes/helmofpanes/input/InputEvent", name := "equals", desc := "(Ljava/lang/Object;)Z" } : Jvm.MethodName) prog_25_method_8_code (3 : Nat) (Option.some Jvm.ClassFile.FieldType.boolean), Jvm.Cond.code ({ cls := "java/lang/Integer", name := "valueOf", desc := "(I)Ljava/lang/Integer;" } : Jvm.MethodName) jdk_33_method_22_code (1 : Nat) (Option.some (Jvm.ClassFile.FieldType.object "java/lang/Integer")), Jvm.Cond.code ({ cls := "java/lang/Integer", name := "<init>", desc := "(I)V" } : Jvm.MethodName) jdk_33_method_23_code (2 : Nat) (Option.none : Option Jvm.ClassFile.FieldType), Jvm.Cond.code ({ cls := "java/lang/Number", name := "<init>", desc := "()V" } : Jvm.MethodName) jdk_18_method_1_code (1 : Nat) (Option.none : Option Jvm.ClassFile.FieldType)]
set_option maxRecDepth 65536 in
theorem codes_eq : words1.filter isCode = codes1 := rfl
theorem w_codes : ∀ c ∈ words1.filter isCode, c.before args0 about1 = true := by
  rw [codes_eq]
  intro c hc
  simp only [codes1, List.mem_cons, List.not_mem_nil, or_false] at hc
  rcases hc with rfl | rfl | rfl | rfl | rfl | rfl | rfl
  · exact w_c0
  · exact w_c1
  · exact w_c2
  · exact w_c3
  · exact w_c4
  · exact w_c5
  · exact w_c6
set_option maxRecDepth 65536 in
theorem w_t1 : (words1.take 24).all (fun c => isCode c || c.before args0 about1) = true := by decide +kernel
set_option maxRecDepth 65536 in
theorem w_t2 : ((words1.drop 24).take 24).all (fun c => isCode c || c.before args0 about1) = true := by decide +kernel
set_option maxRecDepth 65536 in
theorem w_t3 : ((words1.drop 24).drop 24).all (fun c => isCode c || c.before args0 about1) = true := by decide +kernel
theorem w_tables : (allAtoms (Jvm.Cond.code x code maxLocals ret :: tables_1)).before args0 about1 = true := by
  rw [allAtoms_all]
  show words1.all (fun c => c.before args0 about1) = true
  refine all_split ?_ w_codes
  rw [← List.take_append_drop 24 words1, List.all_append, w_t1, ← List.take_append_drop 24 (words1.drop 24), List.all_append, w_t2, w_t3]
  rfl
set_option maxRecDepth 65536 in
theorem w_rest : rest_1_c.before args0 about1 = true := by decide +kernel
set_option maxRecDepth 65536 in
theorem w_case : (Jvm.Cond.and given_1 narrow_1).before args0 about1 = true := by decide +kernel
theorem w_applies : (headSpec (Jvm.Cond.code x code maxLocals ret :: tables_1) room_1).applies x e0.platform about1 = true :=
  (Spec.applies_iff w_frames).mpr ⟨w_running, w_runnable, w_alone, w_named, w_hears, w_ripe, w_room, w_tables⟩
theorem atStart : AtStart classFile x code maxLocals ret World_1 tables_1 room_1 Calls_1 rest_1 Pre_1 launch0 p0 e0 about1 theMethod args0 below0 :=
  ⟨lists_1, trivial, launch0.admits_env _ _ _, launch0.least_env, fairChoices_fair.cas, fairChoices_fair.clock, w_frames, w_args, w_heap, w_applies, trivial, w_rest, w_case⟩
end start1
theorem witness_1 : WitnessClaimed_1 := ⟨start1.p0, start1.e0, start1.about1, start1.theMethod, start1.args0, start1.below0, start1.atStart⟩
end Jvm.Pilot.@@N@@
