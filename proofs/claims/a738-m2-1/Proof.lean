import JvmDerived
import JvmDerived.Pilot.@@N@@Statement
import JvmDerived.Pilot.@@N@@Code
set_option linter.unusedVariables false
set_option linter.unusedSimpArgs false
namespace Jvm.Pilot.@@N@@
open Jvm Jvm.ClassFile Sem Op Lib Jvm.Free Jvm.Stand Jvm.LawKit Jvm.RoadKit Bundle Jvm.Pilot.@@N@@.Jvm.D
section OwnBase
variable {tb : Tables} {e : Env} {below : List Frame} {A B : State} {K : State → Outcome → Prop}
/-- from A the run comes to an end of which K holds -/
def own_Ends (tb : Tables) (e : Env) (below : List Frame) (A : State) (K : State → Outcome → Prop) : Prop := ∃ t o, Steps tb e below A t ∧ K t o
theorem own_open {P : State → Outcome → Prop} (h : ∀ K : State → Outcome → Prop, (∀ t o, P t o → K t o) → own_Ends tb e below A K) : ∃ t o, Steps tb e below A t ∧ P t o := h P fun _ _ q => q
theorem own_go (h : ∀ t, Steps tb e below B t → Steps tb e below A t) (k : own_Ends tb e below B K) : own_Ends tb e below A K := by
  obtain ⟨t, o, h1, h2⟩ := k; exact ⟨t, o, h t h1, h2⟩
theorem own_n0 {Z : State} {n0 : Nat} {h : Heap} (O : Old Z n0 h) : n0 ≤ h.size := O.1 ▸ O.2.1
theorem own_bt {P : Prop} [Decidable P] (h : P) : ¬ ((if P then (1 : Int32) else 0) = 0) := by rw [if_pos h]; decide
theorem own_bf {P : Prop} [Decidable P] (h : ¬ P) : (if P then (1 : Int32) else 0) = 0 := by rw [if_neg h]
theorem own_lt_n0 {Z : State} {n0 : Nat} {h : Heap} {a : Addr} (O : Old Z n0 h) (q : a < Z.heap.size) : a < n0 := O.1 ▸ q
section OwnRet
variable {p : Program} {l : Launch} {R : Room} {s : State} {m : MethodId} {args : Array Value} {meth : Method} {c : Code} {T : State} {locs : List Loc} {cells slots : Nat}
theorem own_retI (X : Stand p l e R s m args below meth c T locs cells slots) (hx : p.tables.exec = Jvm.exec) {pc : Nat} {Ls : Array Slot} {z : Int32} {rest : List Value} (hret : meth.sig.returnType = some .int) (hd : decode c.code pc = .ok (.ireturn, 1)) {fs : List Frame}
    (hl : ∀ (f : JFrame) (acts : List Action), f.method = m → f.locked = none → f.entered = [] → (doReturn e (T.setTop f) acts (some (.int z))).1 = T.setFrames fs) : Steps p.tables e below (T.setTop (mkF m pc Ls (.int z :: rest))) (T.setFrames fs) :=
  retOut X hx hret rfl (Or.inl ⟨rfl, Or.inl rfl, z, rfl⟩) hd hl
theorem own_retL (X : Stand p l e R s m args below meth c T locs cells slots) (hx : p.tables.exec = Jvm.exec) {pc : Nat} {Ls : Array Slot} {z : Int64} {rest : List Value} (hret : meth.sig.returnType = some .long) (hd : decode c.code pc = .ok (.lreturn, 1)) {fs : List Frame}
    (hl : ∀ (f : JFrame) (acts : List Action), f.method = m → f.locked = none → f.entered = [] → (doReturn e (T.setTop f) acts (some (.long z))).1 = T.setFrames fs) : Steps p.tables e below (T.setTop (mkF m pc Ls (.long z :: rest))) (T.setFrames fs) :=
  retOut X hx hret rfl (Or.inr (Or.inl ⟨rfl, rfl, z, rfl⟩)) hd hl
theorem own_retA (X : Stand p l e R s m args below meth c T locs cells slots) (hx : p.tables.exec = Jvm.exec) {pc : Nat} {Ls : Array Slot} {w : Value} {t : FieldType} {rest : List Value} (hret : meth.sig.returnType = some t) (ht : t.isReference = true) (hw : w.isRef = true) (hd : decode c.code pc = .ok (.areturn, 1)) {fs : List Frame}
    (hl : ∀ (f : JFrame) (acts : List Action), f.method = m → f.locked = none → f.entered = [] → (doReturn e (T.setTop f) acts (some w)).1 = T.setFrames fs) : Steps p.tables e below (T.setTop (mkF m pc Ls (w :: rest))) (T.setFrames fs) := by
  have hn : narrow t w = w := by cases t <;> first | rfl | exact Bool.noConfusion ht
  exact retOut X hx hret hn (Or.inr (Or.inr (Or.inr (Or.inr ⟨rfl, ht, hw⟩)))) hd hl
end OwnRet
end OwnBase
theorem own_fldI {Z : State} {args : Array Value} {t : Term} {C n d : String} {x : Addr} {k : Int32} (ev : t.eval args Z none [] Z = some (.ref x)) (h : (Jvm.Cond.eq (Term.field t C n d) (Term.int k)).value args Z none Z [] = some true) : Fld Z Z.heap x C n d (.int k) := by
  apply Fld.start
  rw [← fld_at (t := t) (args := args) (first := Z) (o := none) (idx := []) ev]
  obtain ⟨y, z, h1, h2, -, -⟩ := cmp_v (Or.inl h)
  have h3 : z = .int k := Option.some.inj (h2.symm.trans (Term.int_eval k))
  subst h3
  rw [h1]
  simp only [Jvm.Cond.value] at h
  rw [h1, h2] at h
  cases y <;> simp at h ⊢
  exact h

theorem own_d6_0 : decode jdk_2649_method_3_code 0 = .ok (.aload_n 0, 1) := by decide +kernel
theorem own_d6_1 : decode jdk_2649_method_3_code 1 = .ok (.invokespecial 1, 3) := by decide +kernel
theorem own_d6_4 : decode jdk_2649_method_3_code 4 = .ok (.aload_n 0, 1) := by decide +kernel
theorem own_d6_5 : decode jdk_2649_method_3_code 5 = .ok (.iconst 1, 1) := by decide +kernel
theorem own_d6_6 : decode jdk_2649_method_3_code 6 = .ok (.putfield 7, 3) := by decide +kernel
theorem own_d6_9 : decode jdk_2649_method_3_code 9 = .ok (.aload_n 0, 1) := by decide +kernel
theorem own_d6_10 : decode jdk_2649_method_3_code 10 = .ok (.iload_n 1, 1) := by decide +kernel
theorem own_d6_11 : decode jdk_2649_method_3_code 11 = .ok (.putfield 13, 3) := by decide +kernel
theorem own_d6_14 : decode jdk_2649_method_3_code 14 = .ok (.return_, 1) := by decide +kernel
theorem own_pn_0 : plainName "java/util/OptionalInt" = true := by first | (simp [plainName, overriddenIn]; done) | decide +kernel
theorem own_ef_oinit (m : MethodId) (x0 : Addr) (x1 : Int32)  : entryFrame m #[(.ref x0), (.int x1)] 2 = mkF m 0 #[.val (.ref x0), .val (.int x1)] [] := by first | (simp [entryFrame, mkF, argsToLocals, Value.category]; done) | rfl
def own_Q_oinit (Z : State) (a : Addr) (x : Int32) (h0 : Heap) (n0 : Nat) (v : Option Value) (h : Heap) (L : List Loc) : Prop := v = none ∧ Fr n0 L ∧ Keep h0 h [a] ∧ Exa Z h a "java/util/OptionalInt" ∧ Fld Z h a "java/util/OptionalInt" "isPresent" "Z" (.int (1 : Int32)) ∧ Fld Z h a "java/util/OptionalInt" "value" "I" (.int x)
set_option maxRecDepth 65536 in
set_option maxHeartbeats 40000000 in
theorem own_rm_oinit (l : Launch) (Z : State) (a0 : Array Value) (hw : ∀ d ∈ tables_1, d.before a0 Z = true) (ws : List Jvm.Cond) (a : Addr) (x : Int32) (h0 : Heap) (n0 : Nat) (O0 : Old Z n0 h0) (E0 : Exa Z h0 a "java/util/OptionalInt") (g0 : n0 ≤ a) (F0 : Fld Z h0 a "java/util/OptionalInt" "isPresent" "Z" (.int (0 : Int32))) (F1 : Fld Z h0 a "java/util/OptionalInt" "value" "I" (.int (0 : Int32))) :
    MetFree l (⟨"java/util/OptionalInt", "<init>", "(I)V"⟩ : MethodName) (head1 (Jvm.Cond.code (⟨"java/util/OptionalInt", "<init>", "(I)V"⟩ : MethodName) jdk_2649_method_3_code 2 none :: ws) ({ frames := 1, cells := 0, slots := 0, locals := 12 } : Room)) (fun ar9 U => ar9 = #[(.ref a), (.int x)] ∧ Z.Warmed39 U.vm ∧ U.heap = h0) (fun _ _ _ _ _ => True) (fun _ U o U' => ∃ v L, o = .returned v ∧ own_Q_oinit Z a x h0 n0 v U'.heap L ∧ FrameEnd U o U' L ({ frames := 1, cells := 0, slots := 0, locals := 12 } : Room).cells ({ frames := 1, cells := 0, slots := 0, locals := 12 } : Room).slots) := by
  refine MetFree.of_bodySF (plainFor_of_name own_pn_0) hisR ?_
  intro p e s m args below meth c s₁ Bd hml0 hP hK0
  obtain ⟨rfl, hZ, hh⟩ := hP
  have hx := Bd.exec
  have hby := Bd.bytes
  have hml : c.maxLocals = 2 := hml0
  have hown : s.vm.findClass "java/util/OptionalInt" = some m.cls := findClass_of_methodNamed Bd.named
  have hnm := (name_of_methodNamed Bd.named Bd.method).1
  have X0 : Stand p l e ({ frames := 1, cells := 0, slots := 0, locals := 12 } : Room) s m #[(.ref a), (.int x)] below meth c s₁ [] 0 0 := Stand.of_body Bd
  have e0 : s₁.heap = h0 := by rw [← hh, Bd.state]; rfl
  have N0 := Fr.nil n0
  have K0 := Keep.refl h0 [a]
  refine own_open fun K hK => ?_
  refine own_go (B := s₁.setTop (mkF m 0 #[.val (.ref a), .val (.int x)] [])) (fun t k => castTop (own_ef_oinit m a x) k) ?_
  refine own_go (B := s₁.setTop (mkF m 1 #[.val (.ref a), .val (.int x)] [(.ref a)])) (fun t k => XS.aloadN X0.here hx rfl (hb hby own_d6_0) rfl rfl k) ?_
  obtain ⟨T1, X1, e1, st1⟩ := initO X0 hx hZ hown (hw _ (List.mem_of_getElem? (i := 17) rfl)) (hw _ (List.mem_of_getElem? (i := 18) rfl)) (hw _ (List.mem_of_getElem? (i := 19) rfl)) e0 (g := (mkF m 1 #[.val (.ref a), .val (.int x)] [(.ref a)])) rfl (by rw [hml]; rfl) rfl (hb hby own_d6_1) (by decide) (W := 0) (by show 2 * 0 + _ ≤ _; exact Nat.le_of_eq rfl) (by decide)
  refine own_go (B := T1.setTop (mkF m 4 #[.val (.ref a), .val (.int x)] [])) (fun t k => st1 _ k) ?_
  refine own_go (B := T1.setTop (mkF m 5 #[.val (.ref a), .val (.int x)] [(.ref a)])) (fun t k => XS.aloadN X1.here hx rfl (hb hby own_d6_4) rfl rfl k) ?_
  refine own_go (B := T1.setTop (mkF m 6 #[.val (.ref a), .val (.int x)] [(.int (1 : Int32)), (.ref a)])) (fun t k => XS.iconst X1.here hx rfl (hb hby own_d6_5) k) ?_
  obtain ⟨T2, h2, X2, e2, W2, st2⟩ := putFN X1 hx hZ hown (hw _ (List.mem_of_getElem? (i := 20) rfl)) Via.refl e1 F0 E0 (Or.inr ⟨(hw _ (List.mem_of_getElem? (i := 21) rfl)), rfl, hnm⟩) (hw _ (List.mem_of_getElem? (i := 12) rfl)) (ty := .boolean) (v' := (.int (1 : Int32))) (by decide) rfl (by decide) (g := (mkF m 6 #[.val (.ref a), .val (.int x)] [(.int (1 : Int32)), (.ref a)])) rfl rfl (hb hby own_d6_6)
  have Fw2 := F0.same W2
  have N2 := Fr.snoc X2 N0 g0
  have O2 := O0.wr W2 g0
  have K2 := K0.wr W2 (Or.inl (by simp))
  refine own_go (B := T2.setTop (mkF m 9 #[.val (.ref a), .val (.int x)] [])) (fun t k => st2 _ k) ?_
  refine own_go (B := T2.setTop (mkF m 10 #[.val (.ref a), .val (.int x)] [(.ref a)])) (fun t k => XS.aloadN X2.here hx rfl (hb hby own_d6_9) rfl rfl k) ?_
  refine own_go (B := T2.setTop (mkF m 11 #[.val (.ref a), .val (.int x)] [(.int x), (.ref a)])) (fun t k => XS.iloadN X2.here hx rfl (hb hby own_d6_10) rfl k) ?_
  have f3 := (F1.other W2 (Or.inr (slot_ne (Or.inr (hw _ (List.mem_of_getElem? (i := 23) rfl))) (Or.inr (hw _ (List.mem_of_getElem? (i := 21) rfl))) (by decide) (t := .int) (t' := .boolean) (by decide) (by decide))))
  have f4 := (E0.wr W2)
  obtain ⟨T5, h5, X5, e5, W5, st5⟩ := putF X2 hx hZ hown (host := "") (Or.inl (hw _ (List.mem_of_getElem? (i := 22) rfl))) Via.refl e2 f3 f4 (Or.inr ⟨(hw _ (List.mem_of_getElem? (i := 23) rfl)), rfl, hnm⟩) (hw _ (List.mem_of_getElem? (i := 12) rfl)) (ty := .int) (by decide) rfl rfl (g := (mkF m 11 #[.val (.ref a), .val (.int x)] [(.int x), (.ref a)])) rfl rfl (hb hby own_d6_11)
  have Fw5 := f3.same W5
  have N5 := Fr.snoc X5 N2 g0
  have O5 := O2.wr W5 g0
  have K5 := K2.wr W5 (Or.inl (by simp))
  refine own_go (B := T5.setTop (mkF m 14 #[.val (.ref a), .val (.int x)] [])) (fun t k => st5 _ k) ?_
  obtain ⟨fs, hr, hrun, hended, hW, hsame⟩ := X5.leave (v := none) (fun _ => rfl)
  have f7 := (f4.wr W5)
  have f8 := (Fw2.other W5 (Or.inr (slot_ne (Or.inr (hw _ (List.mem_of_getElem? (i := 21) rfl))) (Or.inr (hw _ (List.mem_of_getElem? (i := 23) rfl))) (by decide) (t := .boolean) (t' := .int) (by decide) (by decide))))
  refine ⟨_, _, X5.returnOut hx Bd.returns (hb hby own_d6_14) hr, hK _ _ ⟨hrun, hended, _, _, rfl, ?_, ⟨_, rfl⟩, hW, hsame.mono (by decide) (by decide)⟩⟩
  show own_Q_oinit Z a x h0 n0 _ T5.heap _
  rw [e5]
  exact ⟨rfl, N5, K5, f7, f8, Fw5⟩
theorem own_d9_0 : decode jdk_2649_method_4_code 0 = .ok (.new 8, 3) := by decide +kernel
theorem own_d9_3 : decode jdk_2649_method_4_code 3 = .ok (.dup, 1) := by decide +kernel
theorem own_d9_4 : decode jdk_2649_method_4_code 4 = .ok (.iload_n 0, 1) := by decide +kernel
theorem own_d9_5 : decode jdk_2649_method_4_code 5 = .ok (.invokespecial 21, 3) := by decide +kernel
theorem own_pd_0 : parseMethodDescriptor "(I)V" = some ⟨[.int], none⟩ := by decide +kernel
theorem own_d9_8 : decode jdk_2649_method_4_code 8 = .ok (.areturn, 1) := by decide +kernel
theorem own_ef_of (m : MethodId) (x0 : Int32)  : entryFrame m #[(.int x0)] 1 = mkF m 0 #[.val (.int x0)] [] := by first | (simp [entryFrame, mkF, argsToLocals, Value.category]; done) | rfl
def own_Q_of (Z : State) (x : Int32) (h0 : Heap) (n0 : Nat) (v : Option Value) (h : Heap) (L : List Loc) : Prop := ∃ r : Addr, v = some (.ref r) ∧ Fr n0 L ∧ Ext h0 h ∧ h0.size ≤ r ∧ Exa Z h r "java/util/OptionalInt" ∧ Fld Z h r "java/util/OptionalInt" "isPresent" "Z" (.int (1 : Int32)) ∧ Fld Z h r "java/util/OptionalInt" "value" "I" (.int x)
set_option maxRecDepth 65536 in
set_option maxHeartbeats 40000000 in
theorem own_rm_of (l : Launch) (Z : State) (a0 : Array Value) (hw : ∀ d ∈ tables_1, d.before a0 Z = true) (ws : List Jvm.Cond) (x : Int32) (h0 : Heap) (n0 : Nat) (O0 : Old Z n0 h0) :
    MetFree l (⟨"java/util/OptionalInt", "of", "(I)Ljava/util/OptionalInt;"⟩ : MethodName) (head1 (Jvm.Cond.code (⟨"java/util/OptionalInt", "of", "(I)Ljava/util/OptionalInt;"⟩ : MethodName) jdk_2649_method_4_code 1 (some (.object "java/util/OptionalInt")) :: ws) ({ frames := 2, cells := 1, slots := 2, locals := 26 } : Room)) (fun ar9 U => ar9 = #[(.int x)] ∧ Z.Warmed39 U.vm ∧ U.heap = h0) (fun _ _ _ _ _ => True) (fun _ U o U' => ∃ v L, o = .returned v ∧ own_Q_of Z x h0 n0 v U'.heap L ∧ FrameEnd U o U' L ({ frames := 2, cells := 1, slots := 2, locals := 26 } : Room).cells ({ frames := 2, cells := 1, slots := 2, locals := 26 } : Room).slots) := by
  refine MetFree.of_bodySF (plainFor_of_name own_pn_0) hisR ?_
  intro p e s m args below meth c s₁ Bd hml0 hP hK0
  obtain ⟨rfl, hZ, hh⟩ := hP
  have hx := Bd.exec
  have hby := Bd.bytes
  have hml : c.maxLocals = 1 := hml0
  have hown : s.vm.findClass "java/util/OptionalInt" = some m.cls := findClass_of_methodNamed Bd.named
  have hnm := (name_of_methodNamed Bd.named Bd.method).1
  have X0 : Stand p l e ({ frames := 2, cells := 1, slots := 2, locals := 26 } : Room) s m #[(.int x)] below meth c s₁ [] 0 0 := Stand.of_body Bd
  have e0 : s₁.heap = h0 := by rw [← hh, Bd.state]; rfl
  have N0 := Fr.nil n0
  have K0 := Keep.refl h0 []
  refine own_open fun K hK => ?_
  refine own_go (B := s₁.setTop (mkF m 0 #[.val (.int x)] [])) (fun t k => castTop (own_ef_of m x) k) ?_
  obtain ⟨T9, h9, X9, e9, E9, A9, D9, -, st9⟩ := newO X0 hx hZ hown (hw _ (List.mem_of_getElem? (i := 11) rfl)) (hw _ (List.mem_of_getElem? (i := 12) rfl)) (hw _ (List.mem_of_getElem? (i := 9) rfl)) e0 (g := (mkF m 0 #[.val (.int x)] [])) rfl (hb hby own_d9_0) (by decide) (by decide)
  obtain ⟨b9, g9⟩ : ∃ z, z = h0.size := ⟨_, rfl⟩
  rw [← g9] at A9 D9 st9
  have g_b9 : n0 ≤ b9 := Nat.le_trans (own_n0 O0) (Nat.le_of_eq g9.symm)
  have O9 := O0.ext E9
  have sz_b9 : h0.size ≤ b9 := Nat.le_trans K0.1 (Nat.le_of_eq g9.symm)
  have K9 := K0.ext E9
  have F9_21 : Fld Z h9 b9 "java/util/OptionalInt" "isPresent" "Z" (.int (0 : Int32)) := D9 (Or.inr (hw _ (List.mem_of_getElem? (i := 21) rfl))) (ty := .boolean) (by decide)
  have F9_23 : Fld Z h9 b9 "java/util/OptionalInt" "value" "I" (.int (0 : Int32)) := D9 (Or.inr (hw _ (List.mem_of_getElem? (i := 23) rfl))) (ty := .int) (by decide)
  refine own_go (B := T9.setTop (mkF m 3 #[.val (.int x)] [(.ref b9)])) (fun t k => st9 _ k) ?_
  refine own_go (B := T9.setTop (mkF m 4 #[.val (.int x)] [(.ref b9), (.ref b9)])) (fun t k => XS.dup X9.here hx rfl (hb hby own_d9_3) rfl rfl k) ?_
  refine own_go (B := T9.setTop (mkF m 5 #[.val (.int x)] [(.int x), (.ref b9), (.ref b9)])) (fun t k => XS.iloadN X9.here hx rfl (hb hby own_d9_4) rfl k) ?_
  obtain ⟨_, _, ⟨T10, L10, k10, n10⟩, -, X10, ⟨Lc10, hQ10, l10, y10, z10⟩, st10⟩ := X9.specialBack hx (y := (⟨"java/util/OptionalInt", "<init>", "(I)V"⟩ : MethodName)) rfl hown (mvT hZ (hw _ (List.mem_of_getElem? (i := 13) rfl))) (mvT hZ (hw _ (List.mem_of_getElem? (i := 14) rfl))) (mvT hZ (hw _ (List.mem_of_getElem? (i := 16) rfl))) (by decide) (backOf (W := 1) (own_rm_oinit l Z a0 hw [] b9 x h9 n0 O9 A9 g_b9 F9_21 F9_23) hZ (hw _ (List.mem_of_getElem? (i := 16) rfl)) (hw _ (List.mem_of_getElem? (i := 9) rfl)) (by decide) (by decide)) (g := (mkF m 5 #[.val (.int x)] [(.int x), (.ref b9), (.ref b9)])) rfl (by rw [hml]; rfl) (Steps.refl _) (a := b9) (argsL := [(.int x)]) (rest := [(.ref b9)]) (lenOf own_pd_0 rfl) rfl (by show 2 * 0 + _ ≤ _; exact Nat.le_of_eq rfl) (hb hby own_d9_5) (fun _ _ => ⟨rfl, e9, (by decide : 1 + 0 ≤ _), (by decide : 2 + 0 ≤ _)⟩)
  dsimp only [Pt.U, Pt.locs, Pt.cells, Pt.slots] at X10 l10 y10 z10 st10 hQ10
  subst l10 y10 z10
  obtain ⟨rfl, N10q, Kc10, En10, Fn10_0, Fn10_1⟩ := hQ10
  have O10 := O9.keep Kc10 (allS g_b9 all0)
  have K10 := K9.trans Kc10 (allS (Or.inr sz_b9) all0)
  have N10 := Fr.app N0 N10q
  refine own_go (B := T10.setTop (mkF m 8 #[.val (.int x)] [(.ref b9)])) (fun t k => st10.trans k) ?_
  obtain ⟨fs, hr, hrun, hended, hW, hsame⟩ := X10.leave (v := some (.ref b9)) (fun h => by rw [Bd.returns] at h; cases h)
  have f12 := (A9.keep Kc10)
  have Ex13 : Ext h0 T10.heap := ⟨K10.1, fun x c q => K10.2.1 x c q nin0⟩
  refine ⟨_, _, own_retA X10 hx Bd.returns rfl rfl (hb hby own_d9_8) hr, hK _ _ ⟨hrun, hended, _, _, rfl, ?_, ⟨_, rfl⟩, hW, hsame.mono (by decide) (by decide)⟩⟩
  show own_Q_of Z x h0 n0 _ T10.heap _
  exact ⟨b9, rfl, N10, Ex13, sz_b9, f12, Fn10_0, Fn10_1⟩
theorem own_d0_0 : decode prog_33_method_1_code 0 = .ok (.aload_n 0, 1) := by decide +kernel
theorem own_d0_1 : decode prog_33_method_1_code 1 = .ok (.invokespecial 1, 3) := by decide +kernel
theorem own_d0_4 : decode prog_33_method_1_code 4 = .ok (.aload_n 0, 1) := by decide +kernel
theorem own_d0_5 : decode prog_33_method_1_code 5 = .ok (.aload_n 1, 1) := by decide +kernel
theorem own_d0_6 : decode prog_33_method_1_code 6 = .ok (.putfield 7, 3) := by decide +kernel
theorem own_d0_9 : decode prog_33_method_1_code 9 = .ok (.return_, 1) := by decide +kernel
theorem own_pn_1 : plainName "com/example/omrakning/omrakning/VwapCarryBack" = true := by first | (simp [plainName, overriddenIn]; done) | decide +kernel
theorem own_ef_vinit (m : MethodId) (x0 : Addr) (x1 : Addr)  : entryFrame m #[(.ref x0), (.ref x1)] 2 = mkF m 0 #[.val (.ref x0), .val (.ref x1)] [] := by first | (simp [entryFrame, mkF, argsToLocals, Value.category]; done) | rfl
def own_Q_vinit (Z : State) (a y : Addr) (h0 : Heap) (n0 : Nat) (v : Option Value) (h : Heap) (L : List Loc) : Prop := v = none ∧ Fr n0 L ∧ Keep h0 h [a] ∧ Exa Z h a "com/example/omrakning/omrakning/VwapCarryBack" ∧ Fld Z h a "com/example/omrakning/omrakning/VwapCarryBack" "days" "Ljava/util/OptionalInt;" (.ref y)
set_option maxRecDepth 65536 in
set_option maxHeartbeats 40000000 in
theorem own_rm_vinit (l : Launch) (Z : State) (a0 : Array Value) (hw : ∀ d ∈ tables_1, d.before a0 Z = true) (ws : List Jvm.Cond) (a y : Addr) (h0 : Heap) (n0 : Nat) (O0 : Old Z n0 h0) (E0 : Exa Z h0 a "com/example/omrakning/omrakning/VwapCarryBack") (g0 : n0 ≤ a) (F0 : Fld Z h0 a "com/example/omrakning/omrakning/VwapCarryBack" "days" "Ljava/util/OptionalInt;" .null) :
    MetFree l (⟨"com/example/omrakning/omrakning/VwapCarryBack", "<init>", "(Ljava/util/OptionalInt;)V"⟩ : MethodName) (head1 (Jvm.Cond.code (⟨"com/example/omrakning/omrakning/VwapCarryBack", "<init>", "(Ljava/util/OptionalInt;)V"⟩ : MethodName) prog_33_method_1_code 2 none :: ws) ({ frames := 1, cells := 0, slots := 0, locals := 12 } : Room)) (fun ar9 U => ar9 = #[(.ref a), (.ref y)] ∧ Z.Warmed39 U.vm ∧ U.heap = h0) (fun _ _ _ _ _ => True) (fun _ U o U' => ∃ v L, o = .returned v ∧ own_Q_vinit Z a y h0 n0 v U'.heap L ∧ FrameEnd U o U' L ({ frames := 1, cells := 0, slots := 0, locals := 12 } : Room).cells ({ frames := 1, cells := 0, slots := 0, locals := 12 } : Room).slots) := by
  refine MetFree.of_bodySF (plainFor_of_name own_pn_1) hisR ?_
  intro p e s m args below meth c s₁ Bd hml0 hP hK0
  obtain ⟨rfl, hZ, hh⟩ := hP
  have hx := Bd.exec
  have hby := Bd.bytes
  have hml : c.maxLocals = 2 := hml0
  have hown : s.vm.findClass "com/example/omrakning/omrakning/VwapCarryBack" = some m.cls := findClass_of_methodNamed Bd.named
  have hnm := (name_of_methodNamed Bd.named Bd.method).1
  have X0 : Stand p l e ({ frames := 1, cells := 0, slots := 0, locals := 12 } : Room) s m #[(.ref a), (.ref y)] below meth c s₁ [] 0 0 := Stand.of_body Bd
  have e0 : s₁.heap = h0 := by rw [← hh, Bd.state]; rfl
  have N0 := Fr.nil n0
  have K0 := Keep.refl h0 [a]
  refine own_open fun K hK => ?_
  refine own_go (B := s₁.setTop (mkF m 0 #[.val (.ref a), .val (.ref y)] [])) (fun t k => castTop (own_ef_vinit m a y) k) ?_
  refine own_go (B := s₁.setTop (mkF m 1 #[.val (.ref a), .val (.ref y)] [(.ref a)])) (fun t k => XS.aloadN X0.here hx rfl (hb hby own_d0_0) rfl rfl k) ?_
  obtain ⟨T14, X14, e14, st14⟩ := initO X0 hx hZ hown (hw _ (List.mem_of_getElem? (i := 27) rfl)) (hw _ (List.mem_of_getElem? (i := 18) rfl)) (hw _ (List.mem_of_getElem? (i := 19) rfl)) e0 (g := (mkF m 1 #[.val (.ref a), .val (.ref y)] [(.ref a)])) rfl (by rw [hml]; rfl) rfl (hb hby own_d0_1) (by decide) (W := 0) (by show 2 * 0 + _ ≤ _; exact Nat.le_of_eq rfl) (by decide)
  refine own_go (B := T14.setTop (mkF m 4 #[.val (.ref a), .val (.ref y)] [])) (fun t k => st14 _ k) ?_
  refine own_go (B := T14.setTop (mkF m 5 #[.val (.ref a), .val (.ref y)] [(.ref a)])) (fun t k => XS.aloadN X14.here hx rfl (hb hby own_d0_4) rfl rfl k) ?_
  refine own_go (B := T14.setTop (mkF m 6 #[.val (.ref a), .val (.ref y)] [(.ref y), (.ref a)])) (fun t k => XS.aloadN X14.here hx rfl (hb hby own_d0_5) rfl rfl k) ?_
  obtain ⟨T15, h15, X15, e15, W15, st15⟩ := putF X14 hx hZ hown (host := "") (Or.inl (hw _ (List.mem_of_getElem? (i := 28) rfl))) Via.refl e14 F0 E0 (Or.inr ⟨(hw _ (List.mem_of_getElem? (i := 29) rfl)), rfl, hnm⟩) (hw _ (List.mem_of_getElem? (i := 6) rfl)) (ty := (.object "java/util/OptionalInt")) (by decide) rfl rfl (g := (mkF m 6 #[.val (.ref a), .val (.ref y)] [(.ref y), (.ref a)])) rfl rfl (hb hby own_d0_6)
  have Fw15 := F0.same W15
  have N15 := Fr.snoc X15 N0 g0
  have O15 := O0.wr W15 g0
  have K15 := K0.wr W15 (Or.inl (by simp))
  refine own_go (B := T15.setTop (mkF m 9 #[.val (.ref a), .val (.ref y)] [])) (fun t k => st15 _ k) ?_
  obtain ⟨fs, hr, hrun, hended, hW, hsame⟩ := X15.leave (v := none) (fun _ => rfl)
  have f17 := (E0.wr W15)
  refine ⟨_, _, X15.returnOut hx Bd.returns (hb hby own_d0_9) hr, hK _ _ ⟨hrun, hended, _, _, rfl, ?_, ⟨_, rfl⟩, hW, hsame.mono (by decide) (by decide)⟩⟩
  show own_Q_vinit Z a y h0 n0 _ T15.heap _
  rw [e15]
  exact ⟨rfl, N15, K15, f17, Fw15⟩
theorem own_d3_0 : decode prog_33_method_3_code 0 = .ok (.iload_n 0, 1) := by decide +kernel
theorem own_d3_1 : decode prog_33_method_3_code 1 = .ok (.ifCond .ge 17, 3) := by decide +kernel
theorem own_d3_18 : decode prog_33_method_3_code 18 = .ok (.new 8, 3) := by decide +kernel
theorem own_d3_21 : decode prog_33_method_3_code 21 = .ok (.dup, 1) := by decide +kernel
theorem own_d3_22 : decode prog_33_method_3_code 22 = .ok (.iload_n 0, 1) := by decide +kernel
theorem own_d3_23 : decode prog_33_method_3_code 23 = .ok (.invokestatic 26, 3) := by decide +kernel
theorem own_pd_1 : parseMethodDescriptor "(I)Ljava/util/OptionalInt;" = some ⟨[.int], some (.object "java/util/OptionalInt")⟩ := by decide +kernel
theorem own_d3_26 : decode prog_33_method_3_code 26 = .ok (.invokespecial 32, 3) := by decide +kernel
theorem own_pd_2 : parseMethodDescriptor "(Ljava/util/OptionalInt;)V" = some ⟨[(.object "java/util/OptionalInt")], none⟩ := by decide +kernel
theorem own_d3_29 : decode prog_33_method_3_code 29 = .ok (.areturn, 1) := by decide +kernel
theorem own_ef_within (m : MethodId) (x0 : Int32)  : entryFrame m #[(.int x0)] 1 = mkF m 0 #[.val (.int x0)] [] := by first | (simp [entryFrame, mkF, argsToLocals, Value.category]; done) | rfl
def own_Q_within (Z : State) (x : Int32) (h0 : Heap) (n0 : Nat) (v : Option Value) (h : Heap) (L : List Loc) : Prop := ∃ r y : Addr, v = some (.ref r) ∧ Fr n0 L ∧ Ext h0 h ∧ h0.size ≤ r ∧ Exa Z h r "com/example/omrakning/omrakning/VwapCarryBack" ∧ Fld Z h r "com/example/omrakning/omrakning/VwapCarryBack" "days" "Ljava/util/OptionalInt;" (.ref y) ∧ Exa Z h y "java/util/OptionalInt" ∧ Fld Z h y "java/util/OptionalInt" "isPresent" "Z" (.int (1 : Int32)) ∧ Fld Z h y "java/util/OptionalInt" "value" "I" (.int x)
set_option maxRecDepth 65536 in
set_option maxHeartbeats 40000000 in
theorem own_rm_within (l : Launch) (Z : State) (a0 : Array Value) (hw : ∀ d ∈ tables_1, d.before a0 Z = true) (ws : List Jvm.Cond) (x : Int32) (h0 : Heap) (n0 : Nat) (O0 : Old Z n0 h0) (c0 : ¬ (x < (0 : Int32))) :
    MetFree l (⟨"com/example/omrakning/omrakning/VwapCarryBack", "within", "(I)Lcom/example/omrakning/omrakning/VwapCarryBack;"⟩ : MethodName) (head1 (Jvm.Cond.code (⟨"com/example/omrakning/omrakning/VwapCarryBack", "within", "(I)Lcom/example/omrakning/omrakning/VwapCarryBack;"⟩ : MethodName) prog_33_method_3_code 1 (some (.object "com/example/omrakning/omrakning/VwapCarryBack")) :: ws) ({ frames := 3, cells := 2, slots := 3, locals := 40 } : Room)) (fun ar9 U => ar9 = #[(.int x)] ∧ Z.Warmed39 U.vm ∧ U.heap = h0) (fun _ _ _ _ _ => True) (fun _ U o U' => ∃ v L, o = .returned v ∧ own_Q_within Z x h0 n0 v U'.heap L ∧ FrameEnd U o U' L ({ frames := 3, cells := 2, slots := 3, locals := 40 } : Room).cells ({ frames := 3, cells := 2, slots := 3, locals := 40 } : Room).slots) := by
  refine MetFree.of_bodySF (plainFor_of_name own_pn_1) hisR ?_
  intro p e s m args below meth c s₁ Bd hml0 hP hK0
  obtain ⟨rfl, hZ, hh⟩ := hP
  have hx := Bd.exec
  have hby := Bd.bytes
  have hml : c.maxLocals = 1 := hml0
  have hown : s.vm.findClass "com/example/omrakning/omrakning/VwapCarryBack" = some m.cls := findClass_of_methodNamed Bd.named
  have hnm := (name_of_methodNamed Bd.named Bd.method).1
  have X0 : Stand p l e ({ frames := 3, cells := 2, slots := 3, locals := 40 } : Room) s m #[(.int x)] below meth c s₁ [] 0 0 := Stand.of_body Bd
  have e0 : s₁.heap = h0 := by rw [← hh, Bd.state]; rfl
  have N0 := Fr.nil n0
  have K0 := Keep.refl h0 []
  refine own_open fun K hK => ?_
  refine own_go (B := s₁.setTop (mkF m 0 #[.val (.int x)] [])) (fun t k => castTop (own_ef_within m x) k) ?_
  refine own_go (B := s₁.setTop (mkF m 1 #[.val (.int x)] [(.int x)])) (fun t k => XS.iloadN X0.here hx rfl (hb hby own_d3_0) rfl k) ?_
  refine own_go (B := s₁.setTop (mkF m 18 #[.val (.int x)] [])) (fun t k => XS.ifYes X0.here hx rfl (pc0 := 1) (pc' := 18) rfl (hb hby own_d3_1) rfl ((if0 _ _).trans (flt c0).2.1) (by decide) (by decide) k) ?_
  obtain ⟨T19, h19, X19, e19, E19, A19, D19, -, st19⟩ := newO X0 hx hZ hown (hw _ (List.mem_of_getElem? (i := 5) rfl)) (hw _ (List.mem_of_getElem? (i := 6) rfl)) (hw _ (List.mem_of_getElem? (i := 3) rfl)) e0 (g := (mkF m 18 #[.val (.int x)] [])) rfl (hb hby own_d3_18) (by decide) (by decide)
  obtain ⟨b19, g19⟩ : ∃ z, z = h0.size := ⟨_, rfl⟩
  rw [← g19] at A19 D19 st19
  have g_b19 : n0 ≤ b19 := Nat.le_trans (own_n0 O0) (Nat.le_of_eq g19.symm)
  have O19 := O0.ext E19
  have sz_b19 : h0.size ≤ b19 := Nat.le_trans K0.1 (Nat.le_of_eq g19.symm)
  have K19 := K0.ext E19
  have F19_29 : Fld Z h19 b19 "com/example/omrakning/omrakning/VwapCarryBack" "days" "Ljava/util/OptionalInt;" .null := D19 (Or.inr (hw _ (List.mem_of_getElem? (i := 29) rfl))) (ty := (.object "java/util/OptionalInt")) (by decide)
  refine own_go (B := T19.setTop (mkF m 21 #[.val (.int x)] [(.ref b19)])) (fun t k => st19 _ k) ?_
  refine own_go (B := T19.setTop (mkF m 22 #[.val (.int x)] [(.ref b19), (.ref b19)])) (fun t k => XS.dup X19.here hx rfl (hb hby own_d3_21) rfl rfl k) ?_
  refine own_go (B := T19.setTop (mkF m 23 #[.val (.int x)] [(.int x), (.ref b19), (.ref b19)])) (fun t k => XS.iloadN X19.here hx rfl (hb hby own_d3_22) rfl k) ?_
  have lt_b19_20 := A19.lt
  obtain ⟨_, _, ⟨T21, L21, k21, n21⟩, -, X21, ⟨Lc21, hQ21, l21, y21, z21⟩, st21⟩ := Jvm.LawKit.callS X19 hx (y := (⟨"java/util/OptionalInt", "of", "(I)Ljava/util/OptionalInt;"⟩ : MethodName)) hown (mvT hZ (hw _ (List.mem_of_getElem? (i := 7) rfl))) (mvT hZ (hw _ (List.mem_of_getElem? (i := 8) rfl))) (mvT hZ (hw _ (List.mem_of_getElem? (i := 9) rfl))) (mvT hZ (hw _ (List.mem_of_getElem? (i := 10) rfl))) (by decide) (backOf (W := 2) (own_rm_of l Z a0 hw [] x h19 n0 O19) hZ (hw _ (List.mem_of_getElem? (i := 10) rfl)) (hw _ (List.mem_of_getElem? (i := 9) rfl)) (by decide) (by decide)) (g := (mkF m 23 #[.val (.int x)] [(.int x), (.ref b19), (.ref b19)])) rfl (by rw [hml]; rfl) (argsL := [(.int x)]) (rest := [(.ref b19), (.ref b19)]) (lenOf own_pd_1 rfl) rfl (by show 2 * 0 + _ ≤ _; exact Nat.le_of_eq rfl) (hb hby own_d3_23) (fun _ _ => ⟨rfl, e19, (by decide : 1 + 1 ≤ _), (by decide : 1 + 2 ≤ _)⟩)
  dsimp only [Pt.U, Pt.locs, Pt.cells, Pt.slots] at X21 l21 y21 z21 st21 hQ21
  subst l21 y21 z21
  obtain ⟨r21, rfl, N21q, Kc21, ge21, Er21, Fa21, Fb21⟩ := hQ21
  have E21 := Kc21
  have O21 := O19.ext E21
  have K21 := K19.ext E21
  have N21 := Fr.app N0 N21q
  refine own_go (B := T21.setTop (mkF m 26 #[.val (.int x)] [(.ref r21), (.ref b19), (.ref b19)])) (fun t k => st21 _ k) ?_
  have g_r21 : n0 ≤ r21 := Nat.le_trans (own_n0 O19) ge21
  have sz_r21 : h0.size ≤ r21 := Nat.le_trans K19.1 ge21
  have f22 := (A19.ext E21)
  have f23 := (F19_29.ext E21)
  obtain ⟨_, _, ⟨T24, L24, k24, n24⟩, -, X24, ⟨Lc24, hQ24, l24, y24, z24⟩, st24⟩ := X21.specialBack hx (y := (⟨"com/example/omrakning/omrakning/VwapCarryBack", "<init>", "(Ljava/util/OptionalInt;)V"⟩ : MethodName)) rfl hown (mvT hZ (hw _ (List.mem_of_getElem? (i := 24) rfl))) (mvT hZ (hw _ (List.mem_of_getElem? (i := 25) rfl))) (mvT hZ (hw _ (List.mem_of_getElem? (i := 26) rfl))) (by decide) (backOf (W := 1) (own_rm_vinit l Z a0 hw [] b19 r21 T21.heap n0 O21 f22 g_b19 f23) hZ (hw _ (List.mem_of_getElem? (i := 26) rfl)) (hw _ (List.mem_of_getElem? (i := 3) rfl)) (by decide) (by decide)) (g := (mkF m 26 #[.val (.int x)] [(.ref r21), (.ref b19), (.ref b19)])) rfl (by rw [hml]; rfl) (Steps.refl _) (a := b19) (argsL := [(.ref r21)]) (rest := [(.ref b19)]) (lenOf own_pd_2 rfl) rfl (by show 2 * 0 + _ ≤ _; exact Nat.le_of_eq rfl) (hb hby own_d3_26) (fun _ _ => ⟨rfl, (rfl : T21.heap = T21.heap), (by decide : 2 + 0 ≤ _), (by decide : 3 + 0 ≤ _)⟩)
  dsimp only [Pt.U, Pt.locs, Pt.cells, Pt.slots] at X24 l24 y24 z24 st24 hQ24
  subst l24 y24 z24
  obtain ⟨rfl, N24q, Kc24, En24, Fn24_0⟩ := hQ24
  have O24 := O21.keep Kc24 (allS g_b19 all0)
  have K24 := K21.trans Kc24 (allS (Or.inr sz_b19) all0)
  have N24 := Fr.app N21 N24q
  refine own_go (B := T24.setTop (mkF m 29 #[.val (.int x)] [(.ref b19)])) (fun t k => st24.trans k) ?_
  obtain ⟨fs, hr, hrun, hended, hW, hsame⟩ := X24.leave (v := some (.ref b19)) (fun h => by rw [Bd.returns] at h; cases h)
  have f26 := (f22.keep Kc24)
  have f27 := (Er21.keep Kc24)
  have f28 := (Fa21.keep Kc24 (ninS (Ne.symm (Nat.ne_of_lt (Nat.lt_of_lt_of_le lt_b19_20 ge21))) nin0))
  have f29 := (Fb21.keep Kc24 (ninS (Ne.symm (Nat.ne_of_lt (Nat.lt_of_lt_of_le lt_b19_20 ge21))) nin0))
  have Ex30 : Ext h0 T24.heap := ⟨K24.1, fun x c q => K24.2.1 x c q nin0⟩
  refine ⟨_, _, own_retA X24 hx Bd.returns rfl rfl (hb hby own_d3_29) hr, hK _ _ ⟨hrun, hended, _, _, rfl, ?_, ⟨_, rfl⟩, hW, hsame.mono (by decide) (by decide)⟩⟩
  show own_Q_within Z x h0 n0 _ T24.heap _
  exact ⟨b19, r21, rfl, N24, Ex30, sz_b19, f26, Fn24_0, f27, f28, f29⟩
theorem own_d2_0 : decode prog_33_method_2_code 0 = .ok (.getstatic 13, 3) := by decide +kernel
theorem own_d2_3 : decode prog_33_method_2_code 3 = .ok (.areturn, 1) := by decide +kernel
theorem own_ef_unb (m : MethodId)   : entryFrame m #[] 0 = mkF m 0 #[] [] := by first | (simp [entryFrame, mkF, argsToLocals, Value.category]; done) | rfl
def own_Q_unb (Z : State) (w_UNBOUNDED : Addr) (h0 : Heap) (n0 : Nat) (v : Option Value) (h : Heap) (L : List Loc) : Prop := v = some (.ref w_UNBOUNDED) ∧ Fr n0 L ∧ h = h0
set_option maxRecDepth 65536 in
set_option maxHeartbeats 40000000 in
theorem own_rm_unb (l : Launch) (Z : State) (a0 : Array Value) (hw : ∀ d ∈ tables_1, d.before a0 Z = true) (ws : List Jvm.Cond) (w_UNBOUNDED : Addr) (h0 : Heap) (n0 : Nat) (O0 : Old Z n0 h0) (S_UNBOUNDED : Sta Z Z.heap "com/example/omrakning/omrakning/VwapCarryBack" "UNBOUNDED" "Lcom/example/omrakning/omrakning/VwapCarryBack;" (.ref w_UNBOUNDED)) :
    MetFree l (⟨"com/example/omrakning/omrakning/VwapCarryBack", "unbounded", "()Lcom/example/omrakning/omrakning/VwapCarryBack;"⟩ : MethodName) (head1 (Jvm.Cond.code (⟨"com/example/omrakning/omrakning/VwapCarryBack", "unbounded", "()Lcom/example/omrakning/omrakning/VwapCarryBack;"⟩ : MethodName) prog_33_method_2_code 0 (some (.object "com/example/omrakning/omrakning/VwapCarryBack")) :: ws) ({ frames := 0, cells := 0, slots := 0, locals := 0 } : Room)) (fun ar9 U => ar9 = #[] ∧ Z.Warmed39 U.vm ∧ U.heap = h0) (fun _ _ _ _ _ => True) (fun _ U o U' => ∃ v L, o = .returned v ∧ own_Q_unb Z w_UNBOUNDED h0 n0 v U'.heap L ∧ FrameEnd U o U' L ({ frames := 0, cells := 0, slots := 0, locals := 0 } : Room).cells ({ frames := 0, cells := 0, slots := 0, locals := 0 } : Room).slots) := by
  refine MetFree.of_bodySF (plainFor_of_name own_pn_1) hisR ?_
  intro p e s m args below meth c s₁ Bd hml0 hP hK0
  obtain ⟨rfl, hZ, hh⟩ := hP
  have hx := Bd.exec
  have hby := Bd.bytes
  have hml : c.maxLocals = 0 := hml0
  have hown : s.vm.findClass "com/example/omrakning/omrakning/VwapCarryBack" = some m.cls := findClass_of_methodNamed Bd.named
  have hnm := (name_of_methodNamed Bd.named Bd.method).1
  have X0 : Stand p l e ({ frames := 0, cells := 0, slots := 0, locals := 0 } : Room) s m #[] below meth c s₁ [] 0 0 := Stand.of_body Bd
  have e0 : s₁.heap = h0 := by rw [← hh, Bd.state]; rfl
  have N0 := Fr.nil n0
  refine own_open fun K hK => ?_
  refine own_go (B := s₁.setTop (mkF m 0 #[] [])) (fun t k => castTop (own_ef_unb m ) k) ?_
  obtain ⟨T31, X31, e31, st31⟩ := getS2 X0 hx hZ hown (host := "") (Or.inl (hw _ (List.mem_of_getElem? (i := 33) rfl))) Via.refl e0 (S_UNBOUNDED.ext O0.2) (g := (mkF m 0 #[] [])) rfl (hb hby own_d2_0)
  refine own_go (B := T31.setTop (mkF m 3 #[] [(.ref w_UNBOUNDED)])) (fun t k => st31 _ k) ?_
  obtain ⟨fs, hr, hrun, hended, hW, hsame⟩ := X31.leave (v := some (.ref w_UNBOUNDED)) (fun h => by rw [Bd.returns] at h; cases h)
  refine ⟨_, _, own_retA X31 hx Bd.returns rfl rfl (hb hby own_d2_3) hr, hK _ _ ⟨hrun, hended, _, _, rfl, ?_, ⟨_, rfl⟩, hW, hsame.mono (by decide) (by decide)⟩⟩
  show own_Q_unb Z w_UNBOUNDED h0 n0 _ T31.heap _
  rw [e31]
  exact ⟨rfl, N0, rfl⟩
theorem own_d1_0 : decode prog_33_method_4_code 0 = .ok (.aload_n 0, 1) := by decide +kernel
theorem own_d1_1 : decode prog_33_method_4_code 1 = .ok (.getfield 7, 3) := by decide +kernel
theorem own_d1_4 : decode prog_33_method_4_code 4 = .ok (.areturn, 1) := by decide +kernel
theorem own_ef_days (m : MethodId) (x0 : Addr)  : entryFrame m #[(.ref x0)] 1 = mkF m 0 #[.val (.ref x0)] [] := by first | (simp [entryFrame, mkF, argsToLocals, Value.category]; done) | rfl
def own_Q_days (Z : State) (a : Addr) (r : Addr) (h0 : Heap) (n0 : Nat) (v : Option Value) (h : Heap) (L : List Loc) : Prop := v = some (.ref r) ∧ Fr n0 L ∧ h = h0
set_option maxRecDepth 65536 in
set_option maxHeartbeats 40000000 in
theorem own_rm_days (l : Launch) (Z : State) (a0 : Array Value) (hw : ∀ d ∈ tables_1, d.before a0 Z = true) (ws : List Jvm.Cond) (a : Addr) (r : Addr) (h0 : Heap) (n0 : Nat) (O0 : Old Z n0 h0) (F0 : Fld Z h0 a "com/example/omrakning/omrakning/VwapCarryBack" "days" "Ljava/util/OptionalInt;" (.ref r)) :
    MetFree l (⟨"com/example/omrakning/omrakning/VwapCarryBack", "days", "()Ljava/util/OptionalInt;"⟩ : MethodName) (head1 (Jvm.Cond.code (⟨"com/example/omrakning/omrakning/VwapCarryBack", "days", "()Ljava/util/OptionalInt;"⟩ : MethodName) prog_33_method_4_code 1 (some (.object "java/util/OptionalInt")) :: ws) ({ frames := 0, cells := 0, slots := 0, locals := 0 } : Room)) (fun ar9 U => ar9 = #[(.ref a)] ∧ Z.Warmed39 U.vm ∧ U.heap = h0) (fun _ _ _ _ _ => True) (fun _ U o U' => ∃ v L, o = .returned v ∧ own_Q_days Z a r h0 n0 v U'.heap L ∧ FrameEnd U o U' L ({ frames := 0, cells := 0, slots := 0, locals := 0 } : Room).cells ({ frames := 0, cells := 0, slots := 0, locals := 0 } : Room).slots) := by
  refine MetFree.of_bodySF (plainFor_of_name own_pn_1) hisR ?_
  intro p e s m args below meth c s₁ Bd hml0 hP hK0
  obtain ⟨rfl, hZ, hh⟩ := hP
  have hx := Bd.exec
  have hby := Bd.bytes
  have hml : c.maxLocals = 1 := hml0
  have hown : s.vm.findClass "com/example/omrakning/omrakning/VwapCarryBack" = some m.cls := findClass_of_methodNamed Bd.named
  have hnm := (name_of_methodNamed Bd.named Bd.method).1
  have X0 : Stand p l e ({ frames := 0, cells := 0, slots := 0, locals := 0 } : Room) s m #[(.ref a)] below meth c s₁ [] 0 0 := Stand.of_body Bd
  have e0 : s₁.heap = h0 := by rw [← hh, Bd.state]; rfl
  have N0 := Fr.nil n0
  refine own_open fun K hK => ?_
  refine own_go (B := s₁.setTop (mkF m 0 #[.val (.ref a)] [])) (fun t k => castTop (own_ef_days m a) k) ?_
  refine own_go (B := s₁.setTop (mkF m 1 #[.val (.ref a)] [(.ref a)])) (fun t k => XS.aloadN X0.here hx rfl (hb hby own_d1_0) rfl rfl k) ?_
  obtain ⟨T33, X33, e33, st33⟩ := getF X0 hx hZ hown (host := "") (Or.inl (hw _ (List.mem_of_getElem? (i := 28) rfl))) Via.refl e0 F0 (g := (mkF m 1 #[.val (.ref a)] [(.ref a)])) rfl rfl (hb hby own_d1_1)
  refine own_go (B := T33.setTop (mkF m 4 #[.val (.ref a)] [(.ref r)])) (fun t k => st33 _ k) ?_
  obtain ⟨fs, hr, hrun, hended, hW, hsame⟩ := X33.leave (v := some (.ref r)) (fun h => by rw [Bd.returns] at h; cases h)
  refine ⟨_, _, own_retA X33 hx Bd.returns rfl rfl (hb hby own_d1_4) hr, hK _ _ ⟨hrun, hended, _, _, rfl, ?_, ⟨_, rfl⟩, hW, hsame.mono (by decide) (by decide)⟩⟩
  show own_Q_days Z a r h0 n0 _ T33.heap _
  rw [e33]
  exact ⟨rfl, N0, rfl⟩
theorem own_d8_0 : decode jdk_2649_method_6_code 0 = .ok (.aload_n 0, 1) := by decide +kernel
theorem own_d8_1 : decode jdk_2649_method_6_code 1 = .ok (.getfield 7, 3) := by decide +kernel
theorem own_d8_4 : decode jdk_2649_method_6_code 4 = .ok (.ireturn, 1) := by decide +kernel
theorem own_ef_isP (m : MethodId) (x0 : Addr)  : entryFrame m #[(.ref x0)] 1 = mkF m 0 #[.val (.ref x0)] [] := by first | (simp [entryFrame, mkF, argsToLocals, Value.category]; done) | rfl
def own_Q_isP (Z : State) (a : Addr) (r : Int32) (h0 : Heap) (n0 : Nat) (v : Option Value) (h : Heap) (L : List Loc) : Prop := v = some (.int r) ∧ Fr n0 L ∧ h = h0
set_option maxRecDepth 65536 in
set_option maxHeartbeats 40000000 in
theorem own_rm_isP (l : Launch) (Z : State) (a0 : Array Value) (hw : ∀ d ∈ tables_1, d.before a0 Z = true) (ws : List Jvm.Cond) (a : Addr) (r : Int32) (h0 : Heap) (n0 : Nat) (O0 : Old Z n0 h0) (F0 : Fld Z h0 a "java/util/OptionalInt" "isPresent" "Z" (.int r)) (hb0 : nar .boolean r = r) :
    MetFree l (⟨"java/util/OptionalInt", "isPresent", "()Z"⟩ : MethodName) (head1 (Jvm.Cond.code (⟨"java/util/OptionalInt", "isPresent", "()Z"⟩ : MethodName) jdk_2649_method_6_code 1 (some .boolean) :: ws) ({ frames := 0, cells := 0, slots := 0, locals := 0 } : Room)) (fun ar9 U => ar9 = #[(.ref a)] ∧ Z.Warmed39 U.vm ∧ U.heap = h0) (fun _ _ _ _ _ => True) (fun _ U o U' => ∃ v L, o = .returned v ∧ own_Q_isP Z a r h0 n0 v U'.heap L ∧ FrameEnd U o U' L ({ frames := 0, cells := 0, slots := 0, locals := 0 } : Room).cells ({ frames := 0, cells := 0, slots := 0, locals := 0 } : Room).slots) := by
  refine MetFree.of_bodySF (plainFor_of_name own_pn_0) hisR ?_
  intro p e s m args below meth c s₁ Bd hml0 hP hK0
  obtain ⟨rfl, hZ, hh⟩ := hP
  have hx := Bd.exec
  have hby := Bd.bytes
  have hml : c.maxLocals = 1 := hml0
  have hown : s.vm.findClass "java/util/OptionalInt" = some m.cls := findClass_of_methodNamed Bd.named
  have hnm := (name_of_methodNamed Bd.named Bd.method).1
  have X0 : Stand p l e ({ frames := 0, cells := 0, slots := 0, locals := 0 } : Room) s m #[(.ref a)] below meth c s₁ [] 0 0 := Stand.of_body Bd
  have e0 : s₁.heap = h0 := by rw [← hh, Bd.state]; rfl
  have N0 := Fr.nil n0
  refine own_open fun K hK => ?_
  refine own_go (B := s₁.setTop (mkF m 0 #[.val (.ref a)] [])) (fun t k => castTop (own_ef_isP m a) k) ?_
  refine own_go (B := s₁.setTop (mkF m 1 #[.val (.ref a)] [(.ref a)])) (fun t k => XS.aloadN X0.here hx rfl (hb hby own_d8_0) rfl rfl k) ?_
  obtain ⟨T35, X35, e35, st35⟩ := getF X0 hx hZ hown (host := "") (Or.inl (hw _ (List.mem_of_getElem? (i := 20) rfl))) Via.refl e0 F0 (g := (mkF m 1 #[.val (.ref a)] [(.ref a)])) rfl rfl (hb hby own_d8_1)
  refine own_go (B := T35.setTop (mkF m 4 #[.val (.ref a)] [(.int r)])) (fun t k => st35 _ k) ?_
  obtain ⟨fs, hr, hrun, hended, hW, hsame⟩ := X35.leave (v := some (.int (nar .boolean r))) (fun h => by rw [Bd.returns] at h; cases h)
  refine ⟨_, _, retN X35 hx (t := .boolean) Bd.returns (by simp) (hb hby own_d8_4) hr, hK _ _ ⟨hrun, hended, _, _, rfl, ?_, ⟨_, rfl⟩, hW, hsame.mono (by decide) (by decide)⟩⟩
  show own_Q_isP Z a r h0 n0 _ T35.heap _
  rw [e35]
  exact ⟨(by rw [hb0]), N0, rfl⟩
theorem own_d7_0 : decode jdk_2649_method_5_code 0 = .ok (.aload_n 0, 1) := by decide +kernel
theorem own_d7_1 : decode jdk_2649_method_5_code 1 = .ok (.getfield 7, 3) := by decide +kernel
theorem own_d7_4 : decode jdk_2649_method_5_code 4 = .ok (.ifCond .ne 13, 3) := by decide +kernel
theorem own_d7_17 : decode jdk_2649_method_5_code 17 = .ok (.aload_n 0, 1) := by decide +kernel
theorem own_d7_18 : decode jdk_2649_method_5_code 18 = .ok (.getfield 13, 3) := by decide +kernel
theorem own_d7_21 : decode jdk_2649_method_5_code 21 = .ok (.ireturn, 1) := by decide +kernel
theorem own_ef_geti (m : MethodId) (x0 : Addr)  : entryFrame m #[(.ref x0)] 1 = mkF m 0 #[.val (.ref x0)] [] := by first | (simp [entryFrame, mkF, argsToLocals, Value.category]; done) | rfl
def own_Q_geti (Z : State) (a : Addr) (x : Int32) (h0 : Heap) (n0 : Nat) (v : Option Value) (h : Heap) (L : List Loc) : Prop := v = some (.int x) ∧ Fr n0 L ∧ h = h0
set_option maxRecDepth 65536 in
set_option maxHeartbeats 40000000 in
theorem own_rm_geti (l : Launch) (Z : State) (a0 : Array Value) (hw : ∀ d ∈ tables_1, d.before a0 Z = true) (ws : List Jvm.Cond) (a : Addr) (x : Int32) (h0 : Heap) (n0 : Nat) (O0 : Old Z n0 h0) (F1 : Fld Z h0 a "java/util/OptionalInt" "isPresent" "Z" (.int (1 : Int32))) (F2 : Fld Z h0 a "java/util/OptionalInt" "value" "I" (.int x)) :
    MetFree l (⟨"java/util/OptionalInt", "getAsInt", "()I"⟩ : MethodName) (head1 (Jvm.Cond.code (⟨"java/util/OptionalInt", "getAsInt", "()I"⟩ : MethodName) jdk_2649_method_5_code 1 (some .int) :: ws) ({ frames := 0, cells := 0, slots := 0, locals := 0 } : Room)) (fun ar9 U => ar9 = #[(.ref a)] ∧ Z.Warmed39 U.vm ∧ U.heap = h0) (fun _ _ _ _ _ => True) (fun _ U o U' => ∃ v L, o = .returned v ∧ own_Q_geti Z a x h0 n0 v U'.heap L ∧ FrameEnd U o U' L ({ frames := 0, cells := 0, slots := 0, locals := 0 } : Room).cells ({ frames := 0, cells := 0, slots := 0, locals := 0 } : Room).slots) := by
  refine MetFree.of_bodySF (plainFor_of_name own_pn_0) hisR ?_
  intro p e s m args below meth c s₁ Bd hml0 hP hK0
  obtain ⟨rfl, hZ, hh⟩ := hP
  have hx := Bd.exec
  have hby := Bd.bytes
  have hml : c.maxLocals = 1 := hml0
  have hown : s.vm.findClass "java/util/OptionalInt" = some m.cls := findClass_of_methodNamed Bd.named
  have hnm := (name_of_methodNamed Bd.named Bd.method).1
  have X0 : Stand p l e ({ frames := 0, cells := 0, slots := 0, locals := 0 } : Room) s m #[(.ref a)] below meth c s₁ [] 0 0 := Stand.of_body Bd
  have e0 : s₁.heap = h0 := by rw [← hh, Bd.state]; rfl
  have N0 := Fr.nil n0
  refine own_open fun K hK => ?_
  refine own_go (B := s₁.setTop (mkF m 0 #[.val (.ref a)] [])) (fun t k => castTop (own_ef_geti m a) k) ?_
  refine own_go (B := s₁.setTop (mkF m 1 #[.val (.ref a)] [(.ref a)])) (fun t k => XS.aloadN X0.here hx rfl (hb hby own_d7_0) rfl rfl k) ?_
  obtain ⟨T37, X37, e37, st37⟩ := getF X0 hx hZ hown (host := "") (Or.inl (hw _ (List.mem_of_getElem? (i := 20) rfl))) Via.refl e0 F1 (g := (mkF m 1 #[.val (.ref a)] [(.ref a)])) rfl rfl (hb hby own_d7_1)
  refine own_go (B := T37.setTop (mkF m 4 #[.val (.ref a)] [(.int (1 : Int32))])) (fun t k => st37 _ k) ?_
  refine own_go (B := T37.setTop (mkF m 17 #[.val (.ref a)] [])) (fun t k => XS.ifYes X37.here hx rfl (pc0 := 4) (pc' := 17) rfl (hb hby own_d7_4) rfl ((if0 _ _).trans (feq (by decide : ¬ ((1 : Int32) = (0 : Int32)))).2) (by decide) (by decide) k) ?_
  refine own_go (B := T37.setTop (mkF m 18 #[.val (.ref a)] [(.ref a)])) (fun t k => XS.aloadN X37.here hx rfl (hb hby own_d7_17) rfl rfl k) ?_
  obtain ⟨T39, X39, e39, st39⟩ := getF X37 hx hZ hown (host := "") (Or.inl (hw _ (List.mem_of_getElem? (i := 22) rfl))) Via.refl e37 F2 (g := (mkF m 18 #[.val (.ref a)] [(.ref a)])) rfl rfl (hb hby own_d7_18)
  refine own_go (B := T39.setTop (mkF m 21 #[.val (.ref a)] [(.int x)])) (fun t k => st39 _ k) ?_
  obtain ⟨fs, hr, hrun, hended, hW, hsame⟩ := X39.leave (v := some (.int x)) (fun h => by rw [Bd.returns] at h; cases h)
  refine ⟨_, _, own_retI X39 hx Bd.returns (hb hby own_d7_21) hr, hK _ _ ⟨hrun, hended, _, _, rfl, ?_, ⟨_, rfl⟩, hW, hsame.mono (by decide) (by decide)⟩⟩
  show own_Q_geti Z a x h0 n0 _ T39.heap _
  rw [e39]
  exact ⟨rfl, N0, rfl⟩
theorem own_m31 (x : Int32) : ¬ ((x &&& (2147483647 : Int32)) < (0 : Int32)) := by
  have h := c_mask x 2147483647 31 (by decide) (by decide)
  rw [Int32.lt_iff_toInt_lt, h]
  have h0 : (0 : Int32).toInt = 0 := rfl
  omega
theorem own_pd_3 : parseMethodDescriptor "(I)Lcom/example/omrakning/omrakning/VwapCarryBack;" = some ⟨[.int], some (.object "com/example/omrakning/omrakning/VwapCarryBack")⟩ := by decide +kernel
theorem own_pd_4 : parseMethodDescriptor "()Lcom/example/omrakning/omrakning/VwapCarryBack;" = some ⟨[], some (.object "com/example/omrakning/omrakning/VwapCarryBack")⟩ := by decide +kernel
theorem own_pd_5 : parseMethodDescriptor "()Ljava/util/OptionalInt;" = some ⟨[], some (.object "java/util/OptionalInt")⟩ := by decide +kernel
theorem own_pd_6 : parseMethodDescriptor "()Z" = some ⟨[], some .boolean⟩ := by decide +kernel
theorem own_pd_7 : parseMethodDescriptor "()I" = some ⟨[], some .int⟩ := by decide +kernel
theorem own_pn_2 : plainName "com/example/omrakning/omrakning/VwapCarryBackWithinPinLaw" = true := by first | (simp [plainName, overriddenIn]; done) | decide +kernel
theorem own_ef_law (m : MethodId) (x0 : Int32)  : entryFrame m #[(.int x0)] maxLocals = mkF m 0 #[.val (.int x0), .unset, .unset, .unset] [] := by first | (simp [entryFrame, mkF, argsToLocals, Value.category, maxLocals]; done) | rfl
def own_Q_law (Z : State) (p1 : Int32) (w_UNBOUNDED : Addr) (h0 : Heap) (n0 : Nat) (v : Option Value) (h : Heap) (L : List Loc) : Prop := v = some (.int 1) ∧ Fr n0 L
set_option maxRecDepth 65536 in
set_option maxHeartbeats 40000000 in
theorem own_rm_law (l : Launch) (Z : State) (a0 : Array Value) (hw : ∀ d ∈ tables_1, d.before a0 Z = true) (ws : List Jvm.Cond) (p1 : Int32) (w_UNBOUNDED : Addr) (h0 : Heap) (n0 : Nat) (O0 : Old Z n0 h0) (S_UNBOUNDED : Sta Z Z.heap "com/example/omrakning/omrakning/VwapCarryBack" "UNBOUNDED" "Lcom/example/omrakning/omrakning/VwapCarryBack;" (.ref w_UNBOUNDED)) (E_UNBOUNDED : Exa Z Z.heap w_UNBOUNDED "com/example/omrakning/omrakning/VwapCarryBack") :
    MetFree l x (head1 (Jvm.Cond.code x code maxLocals ret :: ws) room_1) (fun ar9 U => ar9 = #[(.int p1)] ∧ Z.Warmed39 U.vm ∧ U.heap = h0) (fun _ _ _ _ _ => True) (fun _ U o U' => ∃ v L, o = .returned v ∧ own_Q_law Z p1 w_UNBOUNDED h0 n0 v U'.heap L ∧ FrameEnd U o U' L room_1.cells room_1.slots) := by
  refine MetFree.of_bodySF (plainFor_of_name own_pn_2) hisR ?_
  intro p e s m args below meth c s₁ Bd hml0 hP hK0
  obtain ⟨rfl, hZ, hh⟩ := hP
  have hx := Bd.exec
  have hby := Bd.bytes
  have hml : c.maxLocals = 4 := hml0
  have hown : s.vm.findClass "com/example/omrakning/omrakning/VwapCarryBackWithinPinLaw" = some m.cls := findClass_of_methodNamed Bd.named
  have hnm := (name_of_methodNamed Bd.named Bd.method).1
  have X0 : Stand p l e room_1 s m #[(.int p1)] below meth c s₁ [] 0 0 := Stand.of_body Bd
  have e0 : s₁.heap = h0 := by rw [← hh, Bd.state]; rfl
  have N0 := Fr.nil n0
  refine own_open fun K hK => ?_
  refine own_go (B := s₁.setTop (mkF m 0 #[.val (.int p1), .unset, .unset, .unset] [])) (fun t k => castTop (own_ef_law m p1) k) ?_
  refine own_go (B := s₁.setTop (mkF m 1 #[.val (.int p1), .unset, .unset, .unset] [(.int p1)])) (fun t k => XS.iloadN X0.here hx rfl (hb hby at_0) rfl k) ?_
  refine own_go (B := s₁.setTop (mkF m 3 #[.val (.int p1), .unset, .unset, .unset] [(.int (2147483647 : Int32)), (.int p1)])) (fun t k => X0.ldcInt hx hown (mvT hZ (hw _ (List.mem_of_getElem? (i := 0) rfl))) (g := (mkF m 1 #[.val (.int p1), .unset, .unset, .unset] [(.int p1)])) rfl (hb hby at_1) _ k) ?_
  refine own_go (B := s₁.setTop (mkF m 4 #[.val (.int p1), .unset, .unset, .unset] [(.int (p1 &&& (2147483647 : Int32)))])) (fun t k => XS.iand X0.here hx rfl (hb hby at_3) rfl k) ?_
  refine own_go (B := s₁.setTop (mkF m 5 #[.val (.int p1), .val (.int (p1 &&& (2147483647 : Int32))), .unset, .unset] [])) (fun t k => XS.istoreN X0.here hx rfl (hb hby at_4) rfl (l' := #[.val (.int p1), .val (.int (p1 &&& (2147483647 : Int32))), .unset, .unset]) rfl k) ?_
  obtain ⟨dd, hdd⟩ : ∃ z, z = (p1 &&& (2147483647 : Int32)) := ⟨_, rfl⟩
  rw [← hdd]
  have Rd := own_m31 p1; rw [← hdd] at Rd
  refine own_go (B := s₁.setTop (mkF m 6 #[.val (.int p1), .val (.int dd), .unset, .unset] [(.int dd)])) (fun t k => XS.iloadN X0.here hx rfl (hb hby at_5) rfl k) ?_
  obtain ⟨_, _, ⟨T42, L42, k42, n42⟩, -, X42, ⟨Lc42, hQ42, l42, y42, z42⟩, st42⟩ := Jvm.LawKit.callS X0 hx (y := (⟨"com/example/omrakning/omrakning/VwapCarryBack", "within", "(I)Lcom/example/omrakning/omrakning/VwapCarryBack;"⟩ : MethodName)) hown (mvT hZ (hw _ (List.mem_of_getElem? (i := 1) rfl))) (mvT hZ (hw _ (List.mem_of_getElem? (i := 2) rfl))) (mvT hZ (hw _ (List.mem_of_getElem? (i := 3) rfl))) (mvT hZ (hw _ (List.mem_of_getElem? (i := 4) rfl))) (by decide) (backOf (W := 0) (own_rm_within l Z a0 hw [] dd h0 n0 O0 Rd) hZ (hw _ (List.mem_of_getElem? (i := 4) rfl)) (hw _ (List.mem_of_getElem? (i := 3) rfl)) (by decide) (by decide)) (g := (mkF m 6 #[.val (.int p1), .val (.int dd), .unset, .unset] [(.int dd)])) rfl (by rw [hml]; rfl) (argsL := [(.int dd)]) (rest := []) (lenOf own_pd_3 rfl) rfl (by show 2 * 0 + _ ≤ _; exact Nat.le_of_eq rfl) (hb hby at_6) (fun _ _ => ⟨rfl, e0, (by decide : 0 + 2 ≤ _), (by decide : 0 + 3 ≤ _)⟩)
  dsimp only [Pt.U, Pt.locs, Pt.cells, Pt.slots] at X42 l42 y42 z42 st42 hQ42
  subst l42 y42 z42
  obtain ⟨r42, y42_, rfl, N42q, Kc42, ge42, Er42, Fd42, Eo42, Fa42, Fb42⟩ := hQ42
  have E42 := Kc42
  have O42 := O0.ext E42
  have N42 := Fr.app N0 N42q
  refine own_go (B := T42.setTop (mkF m 9 #[.val (.int p1), .val (.int dd), .unset, .unset] [(.ref r42)])) (fun t k => st42 _ k) ?_
  have g_r42 : n0 ≤ r42 := Nat.le_trans (own_n0 O0) ge42
  refine own_go (B := T42.setTop (mkF m 10 #[.val (.int p1), .val (.int dd), .val (.ref r42), .unset] [])) (fun t k => XS.astoreN X42.here hx rfl (hb hby at_9) rfl rfl (l' := #[.val (.int p1), .val (.int dd), .val (.ref r42), .unset]) rfl k) ?_
  refine own_go (B := T42.setTop (mkF m 11 #[.val (.int p1), .val (.int dd), .val (.ref r42), .unset] [(.ref r42)])) (fun t k => XS.aloadN X42.here hx rfl (hb hby at_10) rfl rfl k) ?_
  refine own_go (B := T42.setTop (mkF m 16 #[.val (.int p1), .val (.int dd), .val (.ref r42), .unset] [])) (fun t k => XS.ifnonnullYes X42.here hx rfl (pc0 := 11) (pc' := 16) rfl (hb hby at_11) rfl (by decide) (by decide) k) ?_
  refine own_go (B := T42.setTop (mkF m 17 #[.val (.int p1), .val (.int dd), .val (.ref r42), .unset] [(.ref r42)])) (fun t k => XS.aloadN X42.here hx rfl (hb hby at_16) rfl rfl k) ?_
  obtain ⟨_, _, ⟨T43, L43, k43, n43⟩, -, X43, ⟨Lc43, hQ43, l43, y43, z43⟩, st43⟩ := Jvm.LawKit.callS X42 hx (y := (⟨"com/example/omrakning/omrakning/VwapCarryBack", "unbounded", "()Lcom/example/omrakning/omrakning/VwapCarryBack;"⟩ : MethodName)) hown (mvT hZ (hw _ (List.mem_of_getElem? (i := 30) rfl))) (mvT hZ (hw _ (List.mem_of_getElem? (i := 31) rfl))) (mvT hZ (hw _ (List.mem_of_getElem? (i := 3) rfl))) (mvT hZ (hw _ (List.mem_of_getElem? (i := 32) rfl))) (by decide) (backOf (W := 1) (own_rm_unb l Z a0 hw [] w_UNBOUNDED T42.heap n0 O42 S_UNBOUNDED) hZ (hw _ (List.mem_of_getElem? (i := 32) rfl)) (hw _ (List.mem_of_getElem? (i := 3) rfl)) (by decide) (by decide)) (g := (mkF m 17 #[.val (.int p1), .val (.int dd), .val (.ref r42), .unset] [(.ref r42)])) rfl (by rw [hml]; rfl) (argsL := []) (rest := [(.ref r42)]) (lenOf own_pd_4 rfl) rfl (by show 2 * 0 + _ ≤ _; exact Nat.le_of_eq rfl) (hb hby at_17) (fun _ _ => ⟨rfl, (rfl : T42.heap = T42.heap), (by decide : 2 + 0 ≤ _), (by decide : 3 + 0 ≤ _)⟩)
  dsimp only [Pt.U, Pt.locs, Pt.cells, Pt.slots] at X43 l43 y43 z43 st43 hQ43
  subst l43 y43 z43
  obtain ⟨rfl, N43q, eh43⟩ := hQ43
  have N43 := Fr.app N42 N43q
  refine own_go (B := T43.setTop (mkF m 20 #[.val (.int p1), .val (.int dd), .val (.ref r42), .unset] [(.ref w_UNBOUNDED), (.ref r42)])) (fun t k => st43 _ k) ?_
  refine own_go (B := T43.setTop (mkF m 25 #[.val (.int p1), .val (.int dd), .val (.ref r42), .unset] [])) (fun t k => Jvm.RoadKit.acmp (g := (mkF m 20 #[.val (.int p1), .val (.int dd), .val (.ref r42), .unset] [(.ref w_UNBOUNDED), (.ref r42)])) X43 hx rfl rfl rfl (pc0 := 20) (pc' := 25) (same := false) rfl (hb hby at_20) rfl (decide_eq_false fun q => (Ne.symm (Nat.ne_of_lt (Nat.lt_of_lt_of_le (own_lt_n0 O0 E_UNBOUNDED.lt) g_r42))) (Value.ref.inj q)) (by decide) (by decide) k) ?_
  refine own_go (B := T43.setTop (mkF m 26 #[.val (.int p1), .val (.int dd), .val (.ref r42), .unset] [(.ref r42)])) (fun t k => XS.aloadN X43.here hx rfl (hb hby at_25) rfl rfl k) ?_
  obtain ⟨cq44, kq44, q44a, q44b, q44c⟩ := isOf hZ eh43 Er42
  obtain ⟨_, _, ⟨T44, L44, k44, n44⟩, -, X44, ⟨Lc44, hQ44, l44, y44, z44⟩, st44⟩ := X43.virtualBack hx (y := (⟨"com/example/omrakning/omrakning/VwapCarryBack", "days", "()Ljava/util/OptionalInt;"⟩ : MethodName)) (z := (⟨"com/example/omrakning/omrakning/VwapCarryBack", "days", "()Ljava/util/OptionalInt;"⟩ : MethodName)) hown (mvT hZ (hw _ (List.mem_of_getElem? (i := 35) rfl))) (mvT hZ (hw _ (List.mem_of_getElem? (i := 36) rfl))) (notFace_of_selects (args := #[]) (mvT hZ (hw _ (List.mem_of_getElem? (i := 38) rfl)))) (mvT hZ (hw _ (List.mem_of_getElem? (i := 38) rfl))) (mvT hZ (hw _ (List.mem_of_getElem? (i := 37) rfl))) (by decide) (backOf (W := 0) (own_rm_days l Z a0 hw [] r42 y42_ T42.heap n0 O42 Fd42) hZ (hw _ (List.mem_of_getElem? (i := 39) rfl)) (hw _ (List.mem_of_getElem? (i := 3) rfl)) (by decide) (by decide)) q44a q44c (g := (mkF m 26 #[.val (.int p1), .val (.int dd), .val (.ref r42), .unset] [(.ref r42)])) rfl (by rw [hml]; rfl) (Steps.refl _) (argsL := []) (rest := []) (lenOf own_pd_5 rfl) rfl (by show 2 * 0 + _ ≤ _; exact Nat.le_of_eq rfl) (hb hby at_26) (fun _ _ => ⟨rfl, eh43, (by decide : 2 + 0 ≤ _), (by decide : 3 + 0 ≤ _)⟩)
  dsimp only [Pt.U, Pt.locs, Pt.cells, Pt.slots] at X44 l44 y44 z44 st44 hQ44
  subst l44 y44 z44
  obtain ⟨rfl, N44q, eh44⟩ := hQ44
  have N44 := Fr.app N43 N44q
  refine own_go (B := T44.setTop (mkF m 29 #[.val (.int p1), .val (.int dd), .val (.ref r42), .unset] [(.ref y42_)])) (fun t k => st44.trans k) ?_
  refine own_go (B := T44.setTop (mkF m 30 #[.val (.int p1), .val (.int dd), .val (.ref r42), .val (.ref y42_)] [])) (fun t k => XS.astoreN X44.here hx rfl (hb hby at_29) rfl rfl (l' := #[.val (.int p1), .val (.int dd), .val (.ref r42), .val (.ref y42_)]) rfl k) ?_
  refine own_go (B := T44.setTop (mkF m 31 #[.val (.int p1), .val (.int dd), .val (.ref r42), .val (.ref y42_)] [(.ref y42_)])) (fun t k => XS.aloadN X44.here hx rfl (hb hby at_30) rfl rfl k) ?_
  refine own_go (B := T44.setTop (mkF m 34 #[.val (.int p1), .val (.int dd), .val (.ref r42), .val (.ref y42_)] [])) (fun t k => XS.ifnullNo X44.here hx rfl (hb hby at_31) rfl k) ?_
  refine own_go (B := T44.setTop (mkF m 35 #[.val (.int p1), .val (.int dd), .val (.ref r42), .val (.ref y42_)] [(.ref y42_)])) (fun t k => XS.aloadN X44.here hx rfl (hb hby at_34) rfl rfl k) ?_
  obtain ⟨cq45, kq45, q45a, q45b, q45c⟩ := isOf hZ eh44 Eo42
  obtain ⟨_, _, ⟨T45, L45, k45, n45⟩, -, X45, ⟨Lc45, hQ45, l45, y45, z45⟩, st45⟩ := X44.virtualBack hx (y := (⟨"java/util/OptionalInt", "isPresent", "()Z"⟩ : MethodName)) (z := (⟨"java/util/OptionalInt", "isPresent", "()Z"⟩ : MethodName)) hown (mvT hZ (hw _ (List.mem_of_getElem? (i := 40) rfl))) (mvT hZ (hw _ (List.mem_of_getElem? (i := 41) rfl))) (notFace_of_selects (args := #[]) (mvT hZ (hw _ (List.mem_of_getElem? (i := 43) rfl)))) (mvT hZ (hw _ (List.mem_of_getElem? (i := 43) rfl))) (mvT hZ (hw _ (List.mem_of_getElem? (i := 42) rfl))) (by decide) (backOf (W := 0) (own_rm_isP l Z a0 hw [] y42_ (1 : Int32) T42.heap n0 O42 Fa42 rfl) hZ (hw _ (List.mem_of_getElem? (i := 44) rfl)) (hw _ (List.mem_of_getElem? (i := 9) rfl)) (by decide) (by decide)) q45a q45c (g := (mkF m 35 #[.val (.int p1), .val (.int dd), .val (.ref r42), .val (.ref y42_)] [(.ref y42_)])) rfl (by rw [hml]; rfl) (Steps.refl _) (argsL := []) (rest := []) (lenOf own_pd_6 rfl) rfl (by show 2 * 0 + _ ≤ _; exact Nat.le_of_eq rfl) (hb hby at_35) (fun _ _ => ⟨rfl, eh44, (by decide : 2 + 0 ≤ _), (by decide : 3 + 0 ≤ _)⟩)
  dsimp only [Pt.U, Pt.locs, Pt.cells, Pt.slots] at X45 l45 y45 z45 st45 hQ45
  subst l45 y45 z45
  obtain ⟨rfl, N45q, eh45⟩ := hQ45
  have N45 := Fr.app N44 N45q
  refine own_go (B := T45.setTop (mkF m 38 #[.val (.int p1), .val (.int dd), .val (.ref r42), .val (.ref y42_)] [(.int (1 : Int32))])) (fun t k => st45.trans k) ?_
  refine own_go (B := T45.setTop (mkF m 43 #[.val (.int p1), .val (.int dd), .val (.ref r42), .val (.ref y42_)] [])) (fun t k => XS.ifYes X45.here hx rfl (pc0 := 38) (pc' := 43) rfl (hb hby at_38) rfl ((if0 _ _).trans (feq (by decide : ¬ ((1 : Int32) = (0 : Int32)))).2) (by decide) (by decide) k) ?_
  refine own_go (B := T45.setTop (mkF m 44 #[.val (.int p1), .val (.int dd), .val (.ref r42), .val (.ref y42_)] [(.ref y42_)])) (fun t k => XS.aloadN X45.here hx rfl (hb hby at_43) rfl rfl k) ?_
  obtain ⟨cq47, kq47, q47a, q47b, q47c⟩ := isOf hZ eh45 Eo42
  obtain ⟨_, _, ⟨T47, L47, k47, n47⟩, -, X47, ⟨Lc47, hQ47, l47, y47, z47⟩, st47⟩ := X45.virtualBack hx (y := (⟨"java/util/OptionalInt", "getAsInt", "()I"⟩ : MethodName)) (z := (⟨"java/util/OptionalInt", "getAsInt", "()I"⟩ : MethodName)) hown (mvT hZ (hw _ (List.mem_of_getElem? (i := 45) rfl))) (mvT hZ (hw _ (List.mem_of_getElem? (i := 46) rfl))) (notFace_of_selects (args := #[]) (mvT hZ (hw _ (List.mem_of_getElem? (i := 48) rfl)))) (mvT hZ (hw _ (List.mem_of_getElem? (i := 48) rfl))) (mvT hZ (hw _ (List.mem_of_getElem? (i := 47) rfl))) (by decide) (backOf (W := 0) (own_rm_geti l Z a0 hw [] y42_ dd T42.heap n0 O42 Fa42 Fb42) hZ (hw _ (List.mem_of_getElem? (i := 49) rfl)) (hw _ (List.mem_of_getElem? (i := 9) rfl)) (by decide) (by decide)) q47a q47c (g := (mkF m 44 #[.val (.int p1), .val (.int dd), .val (.ref r42), .val (.ref y42_)] [(.ref y42_)])) rfl (by rw [hml]; rfl) (Steps.refl _) (argsL := []) (rest := []) (lenOf own_pd_7 rfl) rfl (by show 2 * 0 + _ ≤ _; exact Nat.le_of_eq rfl) (hb hby at_44) (fun _ _ => ⟨rfl, eh45, (by decide : 2 + 0 ≤ _), (by decide : 3 + 0 ≤ _)⟩)
  dsimp only [Pt.U, Pt.locs, Pt.cells, Pt.slots] at X47 l47 y47 z47 st47 hQ47
  subst l47 y47 z47
  obtain ⟨rfl, N47q, eh47⟩ := hQ47
  have N47 := Fr.app N45 N47q
  refine own_go (B := T47.setTop (mkF m 47 #[.val (.int p1), .val (.int dd), .val (.ref r42), .val (.ref y42_)] [(.int dd)])) (fun t k => st47.trans k) ?_
  refine own_go (B := T47.setTop (mkF m 48 #[.val (.int p1), .val (.int dd), .val (.ref r42), .val (.ref y42_)] [(.int dd), (.int dd)])) (fun t k => XS.iloadN X47.here hx rfl (hb hby at_47) rfl k) ?_
  refine own_go (B := T47.setTop (mkF m 51 #[.val (.int p1), .val (.int dd), .val (.ref r42), .val (.ref y42_)] [])) (fun t k => XS.icmpNo X47.here hx rfl (hb hby at_48) rfl (teq (rfl : dd = dd)).2 k) ?_
  refine own_go (B := T47.setTop (mkF m 52 #[.val (.int p1), .val (.int dd), .val (.ref r42), .val (.ref y42_)] [(.int (1 : Int32))])) (fun t k => XS.iconst X47.here hx rfl (hb hby at_51) k) ?_
  refine own_go (B := T47.setTop (mkF m 56 #[.val (.int p1), .val (.int dd), .val (.ref r42), .val (.ref y42_)] [(.int (1 : Int32))])) (fun t k => XS.goto X47.here hx rfl (pc0 := 52) (pc' := 56) rfl (hb hby at_52) (by decide) (by decide) k) ?_
  obtain ⟨fs, hr, hrun, hended, hW, hsame⟩ := X47.leave (v := some (.int (1 : Int32))) (fun h => by rw [Bd.returns] at h; cases h)
  refine ⟨_, _, retN X47 hx (t := .boolean) Bd.returns (by simp) (hb hby at_56) hr, hK _ _ ⟨hrun, hended, _, _, rfl, ?_, ⟨_, rfl⟩, hW, hsame.mono (by decide) (by decide)⟩⟩
  show own_Q_law Z p1 w_UNBOUNDED h0 n0 _ T47.heap _
  rw [eh47]
  exact ⟨rfl, N47⟩
set_option maxRecDepth 65536 in
set_option maxHeartbeats 40000000 in
theorem comes_1 {Post : Tables → Env → Array Value → State → Outcome → State → Prop} (hpost : ∀ tb e args s v u, (limb_1_1.after args s (.returned v) u = true ∧ limb_1_2.after args s (.returned v) u = true ∧ True) → FrameEnd s (.returned v) u (Jvm.fieldLocs frame_1_writes args s ++ Jvm.arrayLocs frame_1_arrays args s ++ Jvm.staticLocs frame_1_statics s) 16 128 → Post tb e args s (.returned v) u) :
    ArmFor flags0 classFile x code maxLocals ret World_1 tables_1 room_1 Calls_1 rest_1 Pre_1 Post := by
  intro l hfl _ _ p e ha hc hk s m args below hf hA hF happ hP
  obtain ⟨hcalls, hrest, hpre⟩ := hP
  obtain ⟨-, -, -, hnamed, -, -, -, hat⟩ := (Spec.applies_iff hf).mp happ
  obtain ⟨hg, hn⟩ := and_e (Cond.before_iff.mp (show (Jvm.Cond.and given_1 narrow_1).before args s = true from hpre))
  obtain ⟨hga, hgb⟩ := and_e hg
  obtain ⟨v0, rfl⟩ : ∃ v0 : Value, args = #[v0] := by
    have hs : args.size = 1 := by simpa [Cond.value, given_1] using hga
    obtain ⟨L⟩ := args
    match L, hs with
    | [v0], _ => exact ⟨v0, rfl⟩
  have hw := fun d (hd : d ∈ tables_1) => atoms_spec (ws := Jvm.Cond.code x code maxLocals ret :: tables_1) hat d (List.mem_cons_of_mem _ hd)
  have hfit : Fit s := fun {y c} hc i hi => by
    obtain ⟨ha, rfl⟩ := Array.getElem?_eq_some_iff.mp hc
    have q := List.all_eq_true.mp ((Array.all_eq_true_iff_forall_mem.mp hF) _ (Array.getElem_mem ha)) i (List.mem_range.mpr hi)
    simpa [Array.getElem?_eq_getElem hi] using q
  obtain ⟨p1, ep1⟩ := is_v hgb
  obtain rfl : v0 = (.int p1) := Option.some.inj ep1
  obtain ⟨w_UNBOUNDED, ev_UNBOUNDED⟩ := exa_v hn
  have S_UNBOUNDED := Sta.start ev_UNBOUNDED (Or.inr ⟨(hw _ (List.mem_of_getElem? (i := 3) rfl)), (hw _ (List.mem_of_getElem? (i := 34) rfl))⟩)
  have E_UNBOUNDED := Exa.start ev_UNBOUNDED hn
  obtain ⟨n, o, h1, h2, h3, _, L, rfl, ⟨rfl, N⟩, hq⟩ := own_rm_law l s _ hw tables_1 p1 w_UNBOUNDED s.heap s.heap.size (Old.start s) S_UNBOUNDED E_UNBOUNDED p e ha hc hk s m _ below hf ((Spec.applies_iff_loose hf).mp happ).1 ⟨rfl, State.Warmed39.refl s, rfl⟩ trivial
  refine ⟨n, _, h1, h2, h3, hpost _ _ _ _ _ _ ⟨Cond.after_iff.mpr rfl, Cond.after_iff.mpr (eq_i res_at (Term.int_eval (1)) rfl), trivial⟩ ⟨hq.1, hq.2.1, (hq.2.2.sift fun y hy => Or.inr (N y hy)).mono (by decide) (by decide)⟩⟩
theorem main_1_1 : Claimed_1_1 := comes_1 fun _ _ _ _ _ _ h hF => ⟨h.1, hF⟩
theorem main_1_2 : Claimed_1_2 := comes_1 fun _ _ _ _ _ _ h hF => ⟨h.2.1, hF⟩
end Jvm.Pilot.@@N@@
namespace Jvm.Pilot.@@N@@
open Jvm Jvm.ClassFile Sem Op Lib Jvm.Free Jvm.Stand Jvm.Pilot.@@N@@.Jvm.D
/-! MADE BY PROGRAM (witnessworld.py) out of the Statement's table words and the real class files: 10 classes; the members and pool entries that the words name. The judged class is class 1, her method 1. -/
namespace start1
open Jvm.ClassFile
def u (s : String) : CpInfo := .utf8 (stringToUtf16 s)
/-- a pool by its gaps: so many unusable entries, then the entry; so many at the end -/
def gap : Nat → List CpInfo → List CpInfo
  | 0, r => r
  | n + 1, r => .unusable :: gap n r
def poolList (es : List (Nat × CpInfo)) (last : Nat) : List CpInfo := es.foldr (fun e r => gap e.1 (e.2 :: r)) (gap last [])
def pool (es : List (Nat × CpInfo)) (last : Nat) : Array CpInfo := ⟨poolList es last⟩
def fileOf (pool : Array CpInfo) (this : Nat) (attrs : Array Attribute := #[]) (ms : Array MethodInfo := #[]) (fl : Nat := 33) (sup : Nat := 0) (ifs : Array Nat := #[]) (fds : Array FieldInfo := #[]) : ClassFile where
  minorVersion := 0
  majorVersion := 65
  constantPool := pool
  accessFlags := fl
  thisClass := this
  superClass := sup
  interfaces := ifs
  fields := fds
  methods := ms
  attributes := attrs
def plain (name : String) (sup : Option ClassId) : Class where
  name := name
  kind := .ordinary
  loader := none
  accessFlags := 33
  super := sup
  interfaces := #[]
  cf := none
  fields := #[]
  methods := #[]
  instanceTypes := #[]
  staticTypes := #[]
  resolved := #[]
  callSites := []
  init := .initialized
  statics := none
  mirror := none

def pool0 : Array CpInfo := pool [(5, u "<init>"), (0, u "()V"), (1, .class_ 10), (1, u "java/lang/Object")] 113

def k0c0 : Code := { maxStack := 0, maxLocals := 1, code := object_method_1_code, exceptionTable := #[], attributes := #[] }
def k0m0 : Method := { name := "<init>", desc := "()V", sig := { parameters := [], returnType := none }, accessFlags := 1, code := some k0c0 }
/-- java/lang/Object -/
def k0 : Class := { plain "java/lang/Object" none with
  accessFlags := 33
  interfaces := #[]
  cf := some (fileOf pool0 8 #[] #[{ accessFlags := 1, nameIndex := 5, descriptorIndex := 6, attributes := #[] }] 33 0 #[] #[])
  fields := #[]
  methods := #[k0m0]
  instanceTypes := #[]
  staticTypes := #[]
  resolved := Array.replicate 124 none
  statics := none }

def pool1 : Array CpInfo := pool [(2, .class_ 4), (1, u "java/lang/Object"), (0, u "<init>"), (0, u "()V"), (0, .integer 2147483647), (0, .methodref 9 10), (0, .class_ 11), (0, .nameAndType 12 13), (0, u "com/example/omrakning/omrakning/VwapCarryBack"), (0, u "within"), (0, u "(I)Lcom/example/omrakning/omrakning/VwapCarryBack;"), (0, .methodref 9 15), (0, .nameAndType 16 17), (0, u "unbounded"), (0, u "()Lcom/example/omrakning/omrakning/VwapCarryBack;"), (0, .methodref 9 19), (0, .nameAndType 20 21), (0, u "days"), (0, u "()Ljava/util/OptionalInt;"), (0, .methodref 23 24), (0, .class_ 25), (0, .nameAndType 26 27), (0, u "java/util/OptionalInt"), (0, u "isPresent"), (0, u "()Z"), (0, .methodref 23 29), (0, .nameAndType 30 31), (0, u "getAsInt"), (0, u "()I"), (0, .class_ 33), (0, u "com/example/omrakning/omrakning/VwapCarryBackWithinPinLaw"), (2, u "law"), (0, u "(I)Z")] 3

def k1m0 : Method := { name := "<init>", desc := "()V", sig := { parameters := [], returnType := none }, accessFlags := 1, code := none }
def k1c1 : Code := { maxStack := 2, maxLocals := 4, code := code, exceptionTable := #[], attributes := #[] }
def k1m1 : Method := { name := "law", desc := "(I)Z", sig := { parameters := [.int], returnType := some .boolean }, accessFlags := 9, code := some k1c1 }
/-- com/example/omrakning/omrakning/VwapCarryBackWithinPinLaw -/
def k1 : Class := { plain "com/example/omrakning/omrakning/VwapCarryBackWithinPinLaw" (some 0) with
  accessFlags := 49
  interfaces := #[]
  cf := some (fileOf pool1 32 #[] #[{ accessFlags := 1, nameIndex := 5, descriptorIndex := 6, attributes := #[] }, { accessFlags := 9, nameIndex := 36, descriptorIndex := 37, attributes := #[] }] 49 2 #[] #[])
  fields := #[]
  methods := #[k1m0, k1m1]
  instanceTypes := #[]
  staticTypes := #[]
  resolved := Array.replicate 41 none
  statics := none }

def pool2 : Array CpInfo := pool [(1, .methodref 2 3), (0, .class_ 4), (0, .nameAndType 5 6), (0, u "java/lang/Object"), (0, u "<init>"), (0, u "()V"), (0, .fieldref 8 9), (0, .class_ 10), (0, .nameAndType 11 12), (0, u "com/example/omrakning/omrakning/VwapCarryBack"), (0, u "days"), (0, u "Ljava/util/OptionalInt;"), (0, .fieldref 8 14), (0, .nameAndType 15 16), (0, u "UNBOUNDED"), (0, u "Lcom/example/omrakning/omrakning/VwapCarryBack;"), (9, .methodref 27 28), (0, .class_ 29), (0, .nameAndType 30 31), (0, u "java/util/OptionalInt"), (0, u "of"), (0, u "(I)Ljava/util/OptionalInt;"), (0, .methodref 8 33), (0, .nameAndType 5 34), (0, u "(Ljava/util/OptionalInt;)V"), (21, u "()Ljava/util/OptionalInt;"), (2, u "unbounded"), (0, u "()Lcom/example/omrakning/omrakning/VwapCarryBack;"), (0, u "within"), (0, u "(I)Lcom/example/omrakning/omrakning/VwapCarryBack;")] 21

def k2c0 : Code := { maxStack := 2, maxLocals := 2, code := prog_33_method_1_code, exceptionTable := #[], attributes := #[] }
def k2m0 : Method := { name := "<init>", desc := "(Ljava/util/OptionalInt;)V", sig := { parameters := [(.object "java/util/OptionalInt")], returnType := none }, accessFlags := 2, code := some k2c0 }
def k2c1 : Code := { maxStack := 1, maxLocals := 0, code := prog_33_method_2_code, exceptionTable := #[], attributes := #[] }
def k2m1 : Method := { name := "unbounded", desc := "()Lcom/example/omrakning/omrakning/VwapCarryBack;", sig := { parameters := [], returnType := some (.object "com/example/omrakning/omrakning/VwapCarryBack") }, accessFlags := 9, code := some k2c1 }
def k2c2 : Code := { maxStack := 3, maxLocals := 1, code := prog_33_method_3_code, exceptionTable := #[], attributes := #[] }
def k2m2 : Method := { name := "within", desc := "(I)Lcom/example/omrakning/omrakning/VwapCarryBack;", sig := { parameters := [.int], returnType := some (.object "com/example/omrakning/omrakning/VwapCarryBack") }, accessFlags := 9, code := some k2c2 }
def k2c3 : Code := { maxStack := 1, maxLocals := 1, code := prog_33_method_4_code, exceptionTable := #[], attributes := #[] }
def k2m3 : Method := { name := "days", desc := "()Ljava/util/OptionalInt;", sig := { parameters := [], returnType := some (.object "java/util/OptionalInt") }, accessFlags := 1, code := some k2c3 }
/-- com/example/omrakning/omrakning/VwapCarryBack -/
def k2 : Class := { plain "com/example/omrakning/omrakning/VwapCarryBack" (some 0) with
  accessFlags := 49
  interfaces := #[]
  cf := some (fileOf pool2 8 #[] #[{ accessFlags := 2, nameIndex := 5, descriptorIndex := 34, attributes := #[] }, { accessFlags := 9, nameIndex := 59, descriptorIndex := 60, attributes := #[] }, { accessFlags := 9, nameIndex := 61, descriptorIndex := 62, attributes := #[] }, { accessFlags := 1, nameIndex := 11, descriptorIndex := 56, attributes := #[] }] 49 2 #[] #[{ accessFlags := 26, nameIndex := 15, descriptorIndex := 16, attributes := #[] }, { accessFlags := 18, nameIndex := 11, descriptorIndex := 12, attributes := #[] }])
  fields := #[{ name := "UNBOUNDED", type := (.object "com/example/omrakning/omrakning/VwapCarryBack"), accessFlags := 26, slot := 0, constantValue := 0 }, { name := "days", type := (.object "java/util/OptionalInt"), accessFlags := 18, slot := 0, constantValue := 0 }]
  methods := #[k2m0, k2m1, k2m2, k2m3]
  instanceTypes := #[(.object "java/util/OptionalInt")]
  staticTypes := #[(.object "com/example/omrakning/omrakning/VwapCarryBack")]
  resolved := Array.replicate 84 none
  statics := some 0 }

def pool3 : Array CpInfo := pool [(1, .methodref 2 3), (0, .class_ 4), (0, .nameAndType 5 6), (0, u "java/lang/Object"), (0, u "<init>"), (0, u "()V"), (0, .fieldref 8 9), (0, .class_ 10), (0, .nameAndType 11 12), (0, u "java/util/OptionalInt"), (0, u "isPresent"), (0, u "Z"), (0, .fieldref 8 14), (0, .nameAndType 15 16), (0, u "value"), (0, u "I"), (2, u "EMPTY"), (0, u "Ljava/util/OptionalInt;"), (0, .methodref 8 22), (0, .nameAndType 5 23), (0, u "(I)V"), (21, u "of"), (9, u "getAsInt"), (0, u "()I"), (40, u "(I)Ljava/util/OptionalInt;"), (1, u "()Z")] 36

def k3m0 : Method := { name := "<init>", desc := "()V", sig := { parameters := [], returnType := none }, accessFlags := 2, code := none }
def k3c1 : Code := { maxStack := 2, maxLocals := 2, code := jdk_2649_method_3_code, exceptionTable := #[], attributes := #[] }
def k3m1 : Method := { name := "<init>", desc := "(I)V", sig := { parameters := [.int], returnType := none }, accessFlags := 2, code := some k3c1 }
def k3c2 : Code := { maxStack := 3, maxLocals := 1, code := jdk_2649_method_4_code, exceptionTable := #[], attributes := #[] }
def k3m2 : Method := { name := "of", desc := "(I)Ljava/util/OptionalInt;", sig := { parameters := [.int], returnType := some (.object "java/util/OptionalInt") }, accessFlags := 9, code := some k3c2 }
def k3c3 : Code := { maxStack := 3, maxLocals := 1, code := jdk_2649_method_5_code, exceptionTable := #[], attributes := #[] }
def k3m3 : Method := { name := "getAsInt", desc := "()I", sig := { parameters := [], returnType := some .int }, accessFlags := 1, code := some k3c3 }
def k3c4 : Code := { maxStack := 1, maxLocals := 1, code := jdk_2649_method_6_code, exceptionTable := #[], attributes := #[] }
def k3m4 : Method := { name := "isPresent", desc := "()Z", sig := { parameters := [], returnType := some .boolean }, accessFlags := 1, code := some k3c4 }
/-- java/util/OptionalInt -/
def k3 : Class := { plain "java/util/OptionalInt" (some 0) with
  accessFlags := 49
  interfaces := #[]
  cf := some (fileOf pool3 8 #[] #[{ accessFlags := 2, nameIndex := 5, descriptorIndex := 6, attributes := #[] }, { accessFlags := 2, nameIndex := 5, descriptorIndex := 23, attributes := #[] }, { accessFlags := 9, nameIndex := 45, descriptorIndex := 97, attributes := #[] }, { accessFlags := 1, nameIndex := 55, descriptorIndex := 56, attributes := #[] }, { accessFlags := 1, nameIndex := 11, descriptorIndex := 99, attributes := #[] }] 49 2 #[] #[{ accessFlags := 26, nameIndex := 19, descriptorIndex := 20, attributes := #[] }, { accessFlags := 18, nameIndex := 11, descriptorIndex := 12, attributes := #[] }, { accessFlags := 18, nameIndex := 15, descriptorIndex := 16, attributes := #[] }])
  fields := #[{ name := "EMPTY", type := (.object "java/util/OptionalInt"), accessFlags := 26, slot := 0, constantValue := 0 }, { name := "isPresent", type := .boolean, accessFlags := 18, slot := 0, constantValue := 0 }, { name := "value", type := .int, accessFlags := 18, slot := 1, constantValue := 0 }]
  methods := #[k3m0, k3m1, k3m2, k3m3, k3m4]
  instanceTypes := #[.boolean, .int]
  staticTypes := #[(.object "java/util/OptionalInt")]
  resolved := Array.replicate 136 none
  statics := none }

def pool4 : Array CpInfo := pool [(1, u "java/lang/Cloneable"), (0, .class_ 1), (0, u "java/lang/Object"), (0, .class_ 3)] 3

/-- java/lang/Cloneable -/
def k4 : Class := { plain "java/lang/Cloneable" (some 0) with
  accessFlags := 1537
  interfaces := #[]
  cf := some (fileOf pool4 2 #[] #[] 1537 4 #[] #[])
  fields := #[]
  methods := #[]
  instanceTypes := #[]
  staticTypes := #[]
  resolved := Array.replicate 8 none
  statics := none }

def pool5 : Array CpInfo := pool [(1, u "java/io/Serializable"), (0, .class_ 1), (0, u "java/lang/Object"), (0, .class_ 3)] 3

/-- java/io/Serializable -/
def k5 : Class := { plain "java/io/Serializable" (some 0) with
  accessFlags := 1537
  interfaces := #[]
  cf := some (fileOf pool5 2 #[] #[] 1537 4 #[] #[])
  fields := #[]
  methods := #[]
  instanceTypes := #[]
  staticTypes := #[]
  resolved := Array.replicate 8 none
  statics := none }

/-- the primitive byte -/
def k6 : Class := { plain "byte" none with kind := .primitive 'B', accessFlags := 0x411 }
/-- [B -/
def k7 : Class := { plain "[B" (some 0) with kind := .array 6 .byte, interfaces := #[4, 5], accessFlags := 1041 }

/-- the primitive int -/
def k8 : Class := { plain "int" none with kind := .primitive 'I', accessFlags := 0x411 }
/-- [I -/
def k9 : Class := { plain "[I" (some 0) with kind := .array 8 .int, interfaces := #[4, 5], accessFlags := 1041 }

def heap : Heap := #[{ cls := 2, slots := #[.ref 1], vm := .statics 2 },
  { cls := 2, slots := #[.null], vm := .none }]
def classes : Array Class := #[k0, k1, k2, k3, k4, k5, k6, k7, k8, k9]
def interned : List (Array UInt16 × Addr) := []
def slotsUsed : Nat := 2
def theMethod : MethodId := ⟨1, 1⟩
def args0 : Array Value := #[.int 5]
def aboutOver (below : List Frame) : State where
  vm := { classes := classes, interned := interned.toArray }
  heap := heap
  slotsUsed := slotsUsed
  threads := #[{ frames := .invoking theMethod args0 :: below }]
def below0 : List Frame := [.native { method := ⟨0, 0⟩, args := #[] }]
def about1 : State := aboutOver below0
def p0 : Program := .bare "" "" ""
def e0 : Env := launch0.env 0 0 0
theorem w_frames : about1.frames = Frame.invoking theMethod args0 :: below0 := rfl
set_option maxRecDepth 65536 in
theorem w_args : argsFit about1.vm theMethod args0 = true := by decide +kernel
set_option maxRecDepth 65536 in
theorem w_heap : heapFits about1 = true := by decide +kernel
set_option maxRecDepth 65536 in
theorem w_runnable : about1.curStatus? = some .runnable := by decide +kernel
set_option maxRecDepth 65536 in
theorem w_alone : about1.alone = true := by decide +kernel
set_option maxRecDepth 65536 in
theorem w_named : about1.methodNamed? x = some theMethod := by decide +kernel
set_option maxRecDepth 65536 in
theorem w_hears : about1.hears theMethod below0 = true := by decide +kernel
set_option maxRecDepth 65536 in
theorem w_ripe : about1.ripe theMethod args0 below0 = true := by decide +kernel
theorem w_running : about1.status = .running := rfl
set_option maxRecDepth 65536 in
theorem w_room : about1.hasRoom e0.platform room_1 = true :=
  launch0.hasRoom_least _ room_1 (by decide +kernel) (by decide +kernel) (by decide +kernel) (by decide +kernel) (by decide +kernel) (by decide +kernel)
theorem allAtoms_all (ts : List Jvm.Cond) (a : Array Jvm.Value) (st : Jvm.State) : (allAtoms ts).before a st = ts.all (fun c => c.before a st) := by
  induction ts with
  | nil => rfl
  | cons c t ih =>
    show (Jvm.Cond.and c (allAtoms t)).before a st = _
    rw [Jvm.Cond.before_and, ih, List.all_cons]
def words1 : List Jvm.Cond := Jvm.Cond.code x code maxLocals ret :: tables_1
/-- a 'code' word, met by the world's own term for the bytes: nothing is compared byte by byte -/
theorem code_word {y : MethodName} {bytes : ByteArray} {mx : Nat} {rt : Option FieldType} {a : Array Value} {s : State} {m : MethodId} {meth : Method} {c : Code} (h1 : s.methodNamed? y = some m) (h2 : s.vm.method? m = some meth) (h3 : meth.code = some c) (h4 : c.code = bytes)
    (h5 : (c.maxLocals == mx && c.exceptionTable.isEmpty && decide (c.maxStack ≤ mostOperands) && decide (meth.sig.returnType = rt) && !meth.locks && decide (parseMethodDescriptor y.desc = some meth.sig)) = true) : (Jvm.Cond.code y bytes mx rt).before a s = true := by
  simp only [Bool.and_eq_true, beq_iff_eq, Bool.not_eq_true', decide_eq_true_eq] at h5
  obtain ⟨⟨⟨⟨⟨g1, g2⟩, g3⟩, g4⟩, g5⟩, g6⟩ := h5
  simp [Cond.before, Cond.holds, Cond.value, h1, h2, h3, h4, g1, g2, g3, g4, g5, g6]
def isCode : Jvm.Cond → Bool
  | .code _ _ _ _ => true
  | _ => false
theorem all_split {L : List Jvm.Cond} {P : Jvm.Cond → Bool} (h1 : L.all (fun c => isCode c || P c) = true) (h2 : ∀ c ∈ L.filter isCode, P c = true) : L.all P = true := by
  refine List.all_eq_true.mpr fun c hc => ?_
  have h := List.all_eq_true.mp h1 c hc
  rcases Bool.eq_false_or_eq_true (isCode c) with hi | hi
  · exact h2 c (List.mem_filter.mpr ⟨hc, hi⟩)
  · simpa [hi] using h
set_option maxRecDepth 65536 in
theorem w_c0 : (Jvm.Cond.code x code maxLocals ret).before args0 about1 = true := code_word (m := ⟨1, 1⟩) (meth := k1m1) (c := k1c1) (by decide +kernel) rfl rfl rfl (by decide +kernel)
set_option maxRecDepth 65536 in
theorem w_c1 : (Jvm.Cond.code ({ cls := "com/example/omrakning/omrakning/VwapCarryBack", name := "within", desc := "(I)Lcom/example/omrakning/omrakning/VwapCarryBack;" } : Jvm.MethodName) prog_33_method_3_code (1 : Nat) (Option.some (Jvm.ClassFile.FieldType.object "com/example/omrakning/omrakning/VwapCarryBack"))).before args0 about1 = true := code_word (m := ⟨2, 2⟩) (meth := k2m2) (c := k2c2) (by decide +kernel) rfl rfl rfl (by decide +kernel)
set_option maxRecDepth 65536 in
theorem w_c2 : (Jvm.Cond.code ({ cls := "java/util/OptionalInt", name := "of", desc := "(I)Ljava/util/OptionalInt;" } : Jvm.MethodName) jdk_2649_method_4_code (1 : Nat) (Option.some (Jvm.ClassFile.FieldType.object "java/util/OptionalInt"))).before args0 about1 = true := code_word (m := ⟨3, 2⟩) (meth := k3m2) (c := k3c2) (by decide +kernel) rfl rfl rfl (by decide +kernel)
set_option maxRecDepth 65536 in
theorem w_c3 : (Jvm.Cond.code ({ cls := "java/util/OptionalInt", name := "<init>", desc := "(I)V" } : Jvm.MethodName) jdk_2649_method_3_code (2 : Nat) (Option.none : Option Jvm.ClassFile.FieldType)).before args0 about1 = true := code_word (m := ⟨3, 1⟩) (meth := k3m1) (c := k3c1) (by decide +kernel) rfl rfl rfl (by decide +kernel)
set_option maxRecDepth 65536 in
theorem w_c4 : (Jvm.Cond.code ({ cls := "java/lang/Object", name := "<init>", desc := "()V" } : Jvm.MethodName) object_method_1_code (1 : Nat) (Option.none : Option Jvm.ClassFile.FieldType)).before args0 about1 = true := code_word (m := ⟨0, 0⟩) (meth := k0m0) (c := k0c0) (by decide +kernel) rfl rfl rfl (by decide +kernel)
set_option maxRecDepth 65536 in
theorem w_c5 : (Jvm.Cond.code ({ cls := "com/example/omrakning/omrakning/VwapCarryBack", name := "<init>", desc := "(Ljava/util/OptionalInt;)V" } : Jvm.MethodName) prog_33_method_1_code (2 : Nat) (Option.none : Option Jvm.ClassFile.FieldType)).before args0 about1 = true := code_word (m := ⟨2, 0⟩) (meth := k2m0) (c := k2c0) (by decide +kernel) rfl rfl rfl (by decide +kernel)
set_option maxRecDepth 65536 in
theorem w_c6 : (Jvm.Cond.code ({ cls := "com/example/omrakning/omrakning/VwapCarryBack", name := "unbounded", desc := "()Lcom/example/omrakning/omrakning/VwapCarryBack;" } : Jvm.MethodName) prog_33_method_2_code (0 : Nat) (Option.some (Jvm.ClassFile.FieldType.object "com/example/omrakning/omrakning/VwapCarryBack"))).before args0 about1 = true := code_word (m := ⟨2, 1⟩) (meth := k2m1) (c := k2c1) (by decide +kernel) rfl rfl rfl (by decide +kernel)
set_option maxRecDepth 65536 in
theorem w_c7 : (Jvm.Cond.code ({ cls := "com/example/omrakning/omrakning/VwapCarryBack", name := "days", desc := "()Ljava/util/OptionalInt;" } : Jvm.MethodName) prog_33_method_4_code (1 : Nat) (Option.some (Jvm.ClassFile.FieldType.object "java/util/OptionalInt"))).before args0 about1 = true := code_word (m := ⟨2, 3⟩) (meth := k2m3) (c := k2c3) (by decide +kernel) rfl rfl rfl (by decide +kernel)
set_option maxRecDepth 65536 in
theorem w_c8 : (Jvm.Cond.code ({ cls := "java/util/OptionalInt", name := "isPresent", desc := "()Z" } : Jvm.MethodName) jdk_2649_method_6_code (1 : Nat) (Option.some Jvm.ClassFile.FieldType.boolean)).before args0 about1 = true := code_word (m := ⟨3, 4⟩) (meth := k3m4) (c := k3c4) (by decide +kernel) rfl rfl rfl (by decide +kernel)
set_option maxRecDepth 65536 in
theorem w_c9 : (Jvm.Cond.code ({ cls := "java/util/OptionalInt", name := "getAsInt", desc := "()I" } : Jvm.MethodName) jdk_2649_method_5_code (1 : Nat) (Option.some Jvm.ClassFile.FieldType.int)).before args0 about1 = true := code_word (m := ⟨3, 3⟩) (meth := k3m3) (c := k3c3) (by decide +kernel) rfl rfl rfl (by decide +kernel)
def codes1 : List Jvm.Cond := [Jvm.Cond.code x code maxLocals ret, Jvm.Cond.code ({ cls := "com/example/omrakning/omrakning/VwapCarryBack", name := "within", desc := "(I)Lcom/example/omrakning/omrakning/VwapCarryBack;" } : Jvm.MethodName) prog_33_method_3_code (1 : Nat) (Option.some (Jvm.ClassFile.FieldType.object "com/example/omrakning/omrakning/VwapCarryBack")), Jvm.Cond.code ({ cls := "java/util/OptionalInt", name := "of", desc := "(I)Ljava/util/OptionalInt;" } : Jvm.MethodName) jdk_2649_method_4_code (1 : Nat) (Option.some (Jvm.ClassFile.FieldType.object "java/util/OptionalInt")), Jvm.Cond.code ({ cls := "java/util/OptionalInt", name := "<init>", desc := "(I)V" } : Jvm.MethodName) jdk_2649_method_3_code (2 : Nat) (Option.none : Option Jvm.ClassFile.FieldType), Jvm.Cond.code ({ cls := "java/lang/Object", name := "<init>", desc := "()V" } : Jvm.MethodName) object_method_1_code (1 : Nat) (Option.none : Option Jvm.ClassFile.FieldType), Jvm.Cond.code ({ cls := "com/example/omrakning/omrakning/VwapCarryBack", name := "<init>", desc := "(Ljava/util/OptionalInt;)V" } : Jvm.MethodName) prog_33_method_1_code (2 : Nat) (Option.none : Option Jvm.ClassFile.FieldType), Jvm.Cond.code ({ cls := "com/example/omrakning/omrakning/VwapCarryBack", name := "unbounded", desc := "()Lcom/example/omrakning/omrakning/VwapCarryBack;" } : Jvm.MethodName) prog_33_method_2_code (0 : Nat) (Option.some (Jvm.ClassFile.FieldType.object "com/example/omrakning/omrakning/VwapCarryBack")), Jvm.Cond.code ({ cls := "com/example/omrakning/omrakning/VwapCarryBack", name := "days", desc := "()Ljava/util/OptionalInt;" } : Jvm.MethodName) prog_33_method_4_code (1 : Nat) (Option.some (Jvm.ClassFile.FieldType.object "java/util/OptionalInt")), Jvm.Cond.code ({ cls := "java/util/OptionalInt", name := "isPresent", desc := "()Z" } : Jvm.MethodName) jdk_2649_method_6_code (1 : Nat) (Option.some Jvm.ClassFile.FieldType.boolean), Jvm.Cond.code ({ cls := "java/util/OptionalInt", name := "getAsInt", desc := "()I" } : Jvm.MethodName) jdk_2649_method_5_code (1 : Nat) (Option.some Jvm.ClassFile.FieldType.int)]
set_option maxRecDepth 65536 in
theorem codes_eq : words1.filter isCode = codes1 := rfl
theorem w_codes : ∀ c ∈ words1.filter isCode, c.before args0 about1 = true := by
  rw [codes_eq]
  intro c hc
  simp only [codes1, List.mem_cons, List.not_mem_nil, or_false] at hc
  rcases hc with rfl | rfl | rfl | rfl | rfl | rfl | rfl | rfl | rfl | rfl
  · exact w_c0
  · exact w_c1
  · exact w_c2
  · exact w_c3
  · exact w_c4
  · exact w_c5
  · exact w_c6
  · exact w_c7
  · exact w_c8
  · exact w_c9
set_option maxRecDepth 65536 in
theorem w_t1 : (words1.take 24).all (fun c => isCode c || c.before args0 about1) = true := by decide +kernel
set_option maxRecDepth 65536 in
theorem w_t2 : ((words1.drop 24).take 24).all (fun c => isCode c || c.before args0 about1) = true := by decide +kernel
set_option maxRecDepth 65536 in
theorem w_t3 : ((words1.drop 24).drop 24).all (fun c => isCode c || c.before args0 about1) = true := by decide +kernel
theorem w_tables : (allAtoms (Jvm.Cond.code x code maxLocals ret :: tables_1)).before args0 about1 = true := by
  rw [allAtoms_all]
  show words1.all (fun c => c.before args0 about1) = true
  refine all_split ?_ w_codes
  rw [← List.take_append_drop 24 words1, List.all_append, w_t1, ← List.take_append_drop 24 (words1.drop 24), List.all_append, w_t2, w_t3]
  rfl
set_option maxRecDepth 65536 in
theorem w_case : (Jvm.Cond.and given_1 narrow_1).before args0 about1 = true := by decide +kernel
theorem w_applies : (headSpec (Jvm.Cond.code x code maxLocals ret :: tables_1) room_1).applies x e0.platform about1 = true :=
  (Spec.applies_iff w_frames).mpr ⟨w_running, w_runnable, w_alone, w_named, w_hears, w_ripe, w_room, w_tables⟩
theorem atStart : AtStart classFile x code maxLocals ret World_1 tables_1 room_1 Calls_1 rest_1 Pre_1 launch0 p0 e0 about1 theMethod args0 below0 :=
  ⟨lists_1, trivial, launch0.admits_env _ _ _, launch0.least_env, fairChoices_fair.cas, fairChoices_fair.clock, w_frames, w_args, w_heap, w_applies, trivial, trivial, w_case⟩
end start1
theorem witness_1 : WitnessClaimed_1 := ⟨start1.p0, start1.e0, start1.about1, start1.theMethod, start1.args0, start1.below0, start1.atStart⟩
end Jvm.Pilot.@@N@@
