import JvmDerived
import JvmDerived.Pilot.@@N@@Statement
import JvmDerived.Pilot.@@N@@Code
set_option linter.unusedVariables false
set_option linter.unusedSimpArgs false
namespace Jvm.Pilot.@@N@@
open Jvm Jvm.ClassFile Sem Op Lib Jvm.Free Jvm.Stand Jvm.LawKit Jvm.RoadKit Bundle Jvm.Pilot.@@N@@.Jvm.D
section OwnBase
variable {tb : Tables} {e : Env} {below : List Frame} {A B : State} {K : State → Outcome → Prop}
/-- from A the run comes to an end of which K holds -/
def own_Ends (tb : Tables) (e : Env) (below : List Frame) (A : State) (K : State → Outcome → Prop) : Prop := ∃ t o, Steps tb e below A t ∧ K t o
theorem own_open {P : State → Outcome → Prop} (h : ∀ K : State → Outcome → Prop, (∀ t o, P t o → K t o) → own_Ends tb e below A K) : ∃ t o, Steps tb e below A t ∧ P t o := h P fun _ _ q => q
theorem own_go (h : ∀ t, Steps tb e below B t → Steps tb e below A t) (k : own_Ends tb e below B K) : own_Ends tb e below A K := by
  obtain ⟨t, o, h1, h2⟩ := k; exact ⟨t, o, h t h1, h2⟩
theorem own_n0 {Z : State} {n0 : Nat} {h : Heap} (O : Old Z n0 h) : n0 ≤ h.size := O.1 ▸ O.2.1
theorem own_bt {P : Prop} [Decidable P] (h : P) : ¬ ((if P then (1 : Int32) else 0) = 0) := by rw [if_pos h]; decide
theorem own_bf {P : Prop} [Decidable P] (h : ¬ P) : (if P then (1 : Int32) else 0) = 0 := by rw [if_neg h]
theorem own_lt_n0 {Z : State} {n0 : Nat} {h : Heap} {a : Addr} (O : Old Z n0 h) (q : a < Z.heap.size) : a < n0 := O.1 ▸ q
section OwnRet
variable {p : Program} {l : Launch} {R : Room} {s : State} {m : MethodId} {args : Array Value} {meth : Method} {c : Code} {T : State} {locs : List Loc} {cells slots : Nat}
theorem own_retI (X : Stand p l e R s m args below meth c T locs cells slots) (hx : p.tables.exec = Jvm.exec) {pc : Nat} {Ls : Array Slot} {z : Int32} {rest : List Value} (hret : meth.sig.returnType = some .int) (hd : decode c.code pc = .ok (.ireturn, 1)) {fs : List Frame}
    (hl : ∀ (f : JFrame) (acts : List Action), f.method = m → f.locked = none → f.entered = [] → (doReturn e (T.setTop f) acts (some (.int z))).1 = T.setFrames fs) : Steps p.tables e below (T.setTop (mkF m pc Ls (.int z :: rest))) (T.setFrames fs) :=
  retOut X hx hret rfl (Or.inl ⟨rfl, Or.inl rfl, z, rfl⟩) hd hl
theorem own_retL (X : Stand p l e R s m args below meth c T locs cells slots) (hx : p.tables.exec = Jvm.exec) {pc : Nat} {Ls : Array Slot} {z : Int64} {rest : List Value} (hret : meth.sig.returnType = some .long) (hd : decode c.code pc = .ok (.lreturn, 1)) {fs : List Frame}
    (hl : ∀ (f : JFrame) (acts : List Action), f.method = m → f.locked = none → f.entered = [] → (doReturn e (T.setTop f) acts (some (.long z))).1 = T.setFrames fs) : Steps p.tables e below (T.setTop (mkF m pc Ls (.long z :: rest))) (T.setFrames fs) :=
  retOut X hx hret rfl (Or.inr (Or.inl ⟨rfl, rfl, z, rfl⟩)) hd hl
theorem own_retA (X : Stand p l e R s m args below meth c T locs cells slots) (hx : p.tables.exec = Jvm.exec) {pc : Nat} {Ls : Array Slot} {w : Value} {t : FieldType} {rest : List Value} (hret : meth.sig.returnType = some t) (ht : t.isReference = true) (hw : w.isRef = true) (hd : decode c.code pc = .ok (.areturn, 1)) {fs : List Frame}
    (hl : ∀ (f : JFrame) (acts : List Action), f.method = m → f.locked = none → f.entered = [] → (doReturn e (T.setTop f) acts (some w)).1 = T.setFrames fs) : Steps p.tables e below (T.setTop (mkF m pc Ls (w :: rest))) (T.setFrames fs) := by
  have hn : narrow t w = w := by cases t <;> first | rfl | exact Bool.noConfusion ht
  exact retOut X hx hret hn (Or.inr (Or.inr (Or.inr (Or.inr ⟨rfl, ht, hw⟩)))) hd hl
end OwnRet
end OwnBase
theorem own_d1_0 : decode prog_15_method_2_code 0 = .ok (.aload_n 0, 1) := by decide +kernel
theorem own_d1_1 : decode prog_15_method_2_code 1 = .ok (.invokespecial 7, 3) := by decide +kernel
theorem own_d1_4 : decode prog_15_method_2_code 4 = .ok (.aload_n 0, 1) := by decide +kernel
theorem own_d1_5 : decode prog_15_method_2_code 5 = .ok (.aload_n 1, 1) := by decide +kernel
theorem own_d1_6 : decode prog_15_method_2_code 6 = .ok (.putfield 12, 3) := by decide +kernel
theorem own_d1_9 : decode prog_15_method_2_code 9 = .ok (.aload_n 0, 1) := by decide +kernel
theorem own_d1_10 : decode prog_15_method_2_code 10 = .ok (.iload_n 2, 1) := by decide +kernel
theorem own_d1_11 : decode prog_15_method_2_code 11 = .ok (.putfield 16, 3) := by decide +kernel
theorem own_d1_14 : decode prog_15_method_2_code 14 = .ok (.return_, 1) := by decide +kernel
theorem own_pn_0 : plainName "com/example/omrakning/omrakning/IssueTerms" = true := by first | (simp [plainName, overriddenIn]; done) | decide +kernel
theorem own_ef_init0 (m : MethodId) (x0 : Addr) (x2 : Int32)  : entryFrame m #[(.ref x0), .null, (.int x2)] 3 = mkF m 0 #[.val (.ref x0), .val .null, .val (.int x2)] [] := by first | (simp [entryFrame, mkF, argsToLocals, Value.category]; done) | rfl
def own_Q_init0 (Z : State) (a : Addr) (h0 : Heap) (n0 : Nat) (v : Option Value) (h : Heap) (L : List Loc) : Prop := v = none ∧ Fr n0 L ∧ Keep h0 h [a] ∧ Exa Z h a "com/example/omrakning/omrakning/IssueTerms" ∧ Fld Z h a "com/example/omrakning/omrakning/IssueTerms" "discountThreshold" "Ljava/math/BigDecimal;" .null ∧ Fld Z h a "com/example/omrakning/omrakning/IssueTerms" "parityProtection" "Z" (.int (0 : Int32))
set_option maxRecDepth 65536 in
set_option maxHeartbeats 40000000 in
theorem own_rm_init0 (l : Launch) (Z : State) (a0 : Array Value) (hw : ∀ d ∈ tables_1, d.before a0 Z = true) (ws : List Jvm.Cond) (a : Addr) (h0 : Heap) (n0 : Nat) (O0 : Old Z n0 h0) (E0 : Exa Z h0 a "com/example/omrakning/omrakning/IssueTerms") (g0 : n0 ≤ a) (F0 : Fld Z h0 a "com/example/omrakning/omrakning/IssueTerms" "discountThreshold" "Ljava/math/BigDecimal;" .null) (F1 : Fld Z h0 a "com/example/omrakning/omrakning/IssueTerms" "parityProtection" "Z" (.int (0 : Int32))) :
    MetFree l (⟨"com/example/omrakning/omrakning/IssueTerms", "<init>", "(Ljava/math/BigDecimal;Z)V"⟩ : MethodName) (head1 (Jvm.Cond.code (⟨"com/example/omrakning/omrakning/IssueTerms", "<init>", "(Ljava/math/BigDecimal;Z)V"⟩ : MethodName) prog_15_method_2_code 3 none :: ws) ({ frames := 1, cells := 0, slots := 0, locals := 12 } : Room)) (fun ar9 U => ar9 = #[(.ref a), .null, (.int (0 : Int32))] ∧ Z.Warmed39 U.vm ∧ U.heap = h0) (fun _ _ _ _ _ => True) (fun _ U o U' => ∃ v L, o = .returned v ∧ own_Q_init0 Z a h0 n0 v U'.heap L ∧ FrameEnd U o U' L ({ frames := 1, cells := 0, slots := 0, locals := 12 } : Room).cells ({ frames := 1, cells := 0, slots := 0, locals := 12 } : Room).slots) := by
  refine MetFree.of_bodySF (plainFor_of_name own_pn_0) hisR ?_
  intro p e s m args below meth c s₁ Bd hml0 hP hK0
  obtain ⟨rfl, hZ, hh⟩ := hP
  have hx := Bd.exec
  have hby := Bd.bytes
  have hml : c.maxLocals = 3 := hml0
  have hown : s.vm.findClass "com/example/omrakning/omrakning/IssueTerms" = some m.cls := findClass_of_methodNamed Bd.named
  have hnm := (name_of_methodNamed Bd.named Bd.method).1
  have X0 : Stand p l e ({ frames := 1, cells := 0, slots := 0, locals := 12 } : Room) s m #[(.ref a), .null, (.int (0 : Int32))] below meth c s₁ [] 0 0 := Stand.of_body Bd
  have e0 : s₁.heap = h0 := by rw [← hh, Bd.state]; rfl
  have N0 := Fr.nil n0
  have K0 := Keep.refl h0 [a]
  refine own_open fun K hK => ?_
  refine own_go (B := s₁.setTop (mkF m 0 #[.val (.ref a), .val .null, .val (.int (0 : Int32))] [])) (fun t k => castTop (own_ef_init0 m a (0 : Int32)) k) ?_
  refine own_go (B := s₁.setTop (mkF m 1 #[.val (.ref a), .val .null, .val (.int (0 : Int32))] [(.ref a)])) (fun t k => XS.aloadN X0.here hx rfl (hb hby own_d1_0) rfl rfl k) ?_
  obtain ⟨T1, X1, e1, st1⟩ := initO X0 hx hZ hown (hw _ (List.mem_of_getElem? (i := 9) rfl)) (hw _ (List.mem_of_getElem? (i := 10) rfl)) (hw _ (List.mem_of_getElem? (i := 11) rfl)) e0 (g := (mkF m 1 #[.val (.ref a), .val .null, .val (.int (0 : Int32))] [(.ref a)])) rfl (by rw [hml]; rfl) rfl (hb hby own_d1_1) (by decide) (W := 0) (by show 2 * 0 + _ ≤ _; exact Nat.le_of_eq rfl) (by decide)
  refine own_go (B := T1.setTop (mkF m 4 #[.val (.ref a), .val .null, .val (.int (0 : Int32))] [])) (fun t k => st1 _ k) ?_
  refine own_go (B := T1.setTop (mkF m 5 #[.val (.ref a), .val .null, .val (.int (0 : Int32))] [(.ref a)])) (fun t k => XS.aloadN X1.here hx rfl (hb hby own_d1_4) rfl rfl k) ?_
  refine own_go (B := T1.setTop (mkF m 6 #[.val (.ref a), .val .null, .val (.int (0 : Int32))] [.null, (.ref a)])) (fun t k => XS.aloadN X1.here hx rfl (hb hby own_d1_5) rfl rfl k) ?_
  obtain ⟨T2, h2, X2, e2, W2, st2⟩ := putF X1 hx hZ hown (host := "") (Or.inl (hw _ (List.mem_of_getElem? (i := 12) rfl))) Via.refl e1 F0 E0 (Or.inr ⟨(hw _ (List.mem_of_getElem? (i := 13) rfl)), rfl, hnm⟩) (hw _ (List.mem_of_getElem? (i := 1) rfl)) (ty := (.object "java/math/BigDecimal")) (by decide) rfl rfl (g := (mkF m 6 #[.val (.ref a), .val .null, .val (.int (0 : Int32))] [.null, (.ref a)])) rfl rfl (hb hby own_d1_6)
  have Fw2 := F0.same W2
  have N2 := Fr.snoc X2 N0 g0
  have O2 := O0.wr W2 g0
  have K2 := K0.wr W2 (Or.inl (by simp))
  refine own_go (B := T2.setTop (mkF m 9 #[.val (.ref a), .val .null, .val (.int (0 : Int32))] [])) (fun t k => st2 _ k) ?_
  refine own_go (B := T2.setTop (mkF m 10 #[.val (.ref a), .val .null, .val (.int (0 : Int32))] [(.ref a)])) (fun t k => XS.aloadN X2.here hx rfl (hb hby own_d1_9) rfl rfl k) ?_
  refine own_go (B := T2.setTop (mkF m 11 #[.val (.ref a), .val .null, .val (.int (0 : Int32))] [(.int (0 : Int32)), (.ref a)])) (fun t k => XS.iloadN X2.here hx rfl (hb hby own_d1_10) rfl k) ?_
  have f3 := (F1.other W2 (Or.inr (slot_ne (Or.inr (hw _ (List.mem_of_getElem? (i := 15) rfl))) (Or.inr (hw _ (List.mem_of_getElem? (i := 13) rfl))) (by decide) (t := .boolean) (t' := (.object "java/math/BigDecimal")) (by decide) (by decide))))
  have f4 := (E0.wr W2)
  obtain ⟨T5, h5, X5, e5, W5, st5⟩ := putFN X2 hx hZ hown (hw _ (List.mem_of_getElem? (i := 14) rfl)) Via.refl e2 f3 f4 (Or.inr ⟨(hw _ (List.mem_of_getElem? (i := 15) rfl)), rfl, hnm⟩) (hw _ (List.mem_of_getElem? (i := 1) rfl)) (ty := .boolean) (v' := (.int (0 : Int32))) (by decide) rfl (by decide) (g := (mkF m 11 #[.val (.ref a), .val .null, .val (.int (0 : Int32))] [(.int (0 : Int32)), (.ref a)])) rfl rfl (hb hby own_d1_11)
  have Fw5 := f3.same W5
  have N5 := Fr.snoc X5 N2 g0
  have O5 := O2.wr W5 g0
  have K5 := K2.wr W5 (Or.inl (by simp))
  refine own_go (B := T5.setTop (mkF m 14 #[.val (.ref a), .val .null, .val (.int (0 : Int32))] [])) (fun t k => st5 _ k) ?_
  obtain ⟨fs, hr, hrun, hended, hW, hsame⟩ := X5.leave (v := none) (fun _ => rfl)
  have f7 := (f4.wr W5)
  have f8 := (Fw2.other W5 (Or.inr (slot_ne (Or.inr (hw _ (List.mem_of_getElem? (i := 13) rfl))) (Or.inr (hw _ (List.mem_of_getElem? (i := 15) rfl))) (by decide) (t := (.object "java/math/BigDecimal")) (t' := .boolean) (by decide) (by decide))))
  refine ⟨_, _, X5.returnOut hx Bd.returns (hb hby own_d1_14) hr, hK _ _ ⟨hrun, hended, _, _, rfl, ?_, ⟨_, rfl⟩, hW, hsame.mono (by decide) (by decide)⟩⟩
  show own_Q_init0 Z a h0 n0 _ T5.heap _
  rw [e5]
  exact ⟨rfl, N5, K5, f7, f8, Fw5⟩
theorem own_ef_init1 (m : MethodId) (x0 : Addr) (x2 : Int32)  : entryFrame m #[(.ref x0), .null, (.int x2)] 3 = mkF m 0 #[.val (.ref x0), .val .null, .val (.int x2)] [] := by first | (simp [entryFrame, mkF, argsToLocals, Value.category]; done) | rfl
def own_Q_init1 (Z : State) (a : Addr) (h0 : Heap) (n0 : Nat) (v : Option Value) (h : Heap) (L : List Loc) : Prop := v = none ∧ Fr n0 L ∧ Keep h0 h [a] ∧ Exa Z h a "com/example/omrakning/omrakning/IssueTerms" ∧ Fld Z h a "com/example/omrakning/omrakning/IssueTerms" "discountThreshold" "Ljava/math/BigDecimal;" .null ∧ Fld Z h a "com/example/omrakning/omrakning/IssueTerms" "parityProtection" "Z" (.int (1 : Int32))
set_option maxRecDepth 65536 in
set_option maxHeartbeats 40000000 in
theorem own_rm_init1 (l : Launch) (Z : State) (a0 : Array Value) (hw : ∀ d ∈ tables_1, d.before a0 Z = true) (ws : List Jvm.Cond) (a : Addr) (h0 : Heap) (n0 : Nat) (O0 : Old Z n0 h0) (E0 : Exa Z h0 a "com/example/omrakning/omrakning/IssueTerms") (g0 : n0 ≤ a) (F0 : Fld Z h0 a "com/example/omrakning/omrakning/IssueTerms" "discountThreshold" "Ljava/math/BigDecimal;" .null) (F1 : Fld Z h0 a "com/example/omrakning/omrakning/IssueTerms" "parityProtection" "Z" (.int (0 : Int32))) :
    MetFree l (⟨"com/example/omrakning/omrakning/IssueTerms", "<init>", "(Ljava/math/BigDecimal;Z)V"⟩ : MethodName) (head1 (Jvm.Cond.code (⟨"com/example/omrakning/omrakning/IssueTerms", "<init>", "(Ljava/math/BigDecimal;Z)V"⟩ : MethodName) prog_15_method_2_code 3 none :: ws) ({ frames := 1, cells := 0, slots := 0, locals := 12 } : Room)) (fun ar9 U => ar9 = #[(.ref a), .null, (.int (1 : Int32))] ∧ Z.Warmed39 U.vm ∧ U.heap = h0) (fun _ _ _ _ _ => True) (fun _ U o U' => ∃ v L, o = .returned v ∧ own_Q_init1 Z a h0 n0 v U'.heap L ∧ FrameEnd U o U' L ({ frames := 1, cells := 0, slots := 0, locals := 12 } : Room).cells ({ frames := 1, cells := 0, slots := 0, locals := 12 } : Room).slots) := by
  refine MetFree.of_bodySF (plainFor_of_name own_pn_0) hisR ?_
  intro p e s m args below meth c s₁ Bd hml0 hP hK0
  obtain ⟨rfl, hZ, hh⟩ := hP
  have hx := Bd.exec
  have hby := Bd.bytes
  have hml : c.maxLocals = 3 := hml0
  have hown : s.vm.findClass "com/example/omrakning/omrakning/IssueTerms" = some m.cls := findClass_of_methodNamed Bd.named
  have hnm := (name_of_methodNamed Bd.named Bd.method).1
  have X0 : Stand p l e ({ frames := 1, cells := 0, slots := 0, locals := 12 } : Room) s m #[(.ref a), .null, (.int (1 : Int32))] below meth c s₁ [] 0 0 := Stand.of_body Bd
  have e0 : s₁.heap = h0 := by rw [← hh, Bd.state]; rfl
  have N0 := Fr.nil n0
  have K0 := Keep.refl h0 [a]
  refine own_open fun K hK => ?_
  refine own_go (B := s₁.setTop (mkF m 0 #[.val (.ref a), .val .null, .val (.int (1 : Int32))] [])) (fun t k => castTop (own_ef_init1 m a (1 : Int32)) k) ?_
  refine own_go (B := s₁.setTop (mkF m 1 #[.val (.ref a), .val .null, .val (.int (1 : Int32))] [(.ref a)])) (fun t k => XS.aloadN X0.here hx rfl (hb hby own_d1_0) rfl rfl k) ?_
  obtain ⟨T9, X9, e9, st9⟩ := initO X0 hx hZ hown (hw _ (List.mem_of_getElem? (i := 9) rfl)) (hw _ (List.mem_of_getElem? (i := 10) rfl)) (hw _ (List.mem_of_getElem? (i := 11) rfl)) e0 (g := (mkF m 1 #[.val (.ref a), .val .null, .val (.int (1 : Int32))] [(.ref a)])) rfl (by rw [hml]; rfl) rfl (hb hby own_d1_1) (by decide) (W := 0) (by show 2 * 0 + _ ≤ _; exact Nat.le_of_eq rfl) (by decide)
  refine own_go (B := T9.setTop (mkF m 4 #[.val (.ref a), .val .null, .val (.int (1 : Int32))] [])) (fun t k => st9 _ k) ?_
  refine own_go (B := T9.setTop (mkF m 5 #[.val (.ref a), .val .null, .val (.int (1 : Int32))] [(.ref a)])) (fun t k => XS.aloadN X9.here hx rfl (hb hby own_d1_4) rfl rfl k) ?_
  refine own_go (B := T9.setTop (mkF m 6 #[.val (.ref a), .val .null, .val (.int (1 : Int32))] [.null, (.ref a)])) (fun t k => XS.aloadN X9.here hx rfl (hb hby own_d1_5) rfl rfl k) ?_
  obtain ⟨T10, h10, X10, e10, W10, st10⟩ := putF X9 hx hZ hown (host := "") (Or.inl (hw _ (List.mem_of_getElem? (i := 12) rfl))) Via.refl e9 F0 E0 (Or.inr ⟨(hw _ (List.mem_of_getElem? (i := 13) rfl)), rfl, hnm⟩) (hw _ (List.mem_of_getElem? (i := 1) rfl)) (ty := (.object "java/math/BigDecimal")) (by decide) rfl rfl (g := (mkF m 6 #[.val (.ref a), .val .null, .val (.int (1 : Int32))] [.null, (.ref a)])) rfl rfl (hb hby own_d1_6)
  have Fw10 := F0.same W10
  have N10 := Fr.snoc X10 N0 g0
  have O10 := O0.wr W10 g0
  have K10 := K0.wr W10 (Or.inl (by simp))
  refine own_go (B := T10.setTop (mkF m 9 #[.val (.ref a), .val .null, .val (.int (1 : Int32))] [])) (fun t k => st10 _ k) ?_
  refine own_go (B := T10.setTop (mkF m 10 #[.val (.ref a), .val .null, .val (.int (1 : Int32))] [(.ref a)])) (fun t k => XS.aloadN X10.here hx rfl (hb hby own_d1_9) rfl rfl k) ?_
  refine own_go (B := T10.setTop (mkF m 11 #[.val (.ref a), .val .null, .val (.int (1 : Int32))] [(.int (1 : Int32)), (.ref a)])) (fun t k => XS.iloadN X10.here hx rfl (hb hby own_d1_10) rfl k) ?_
  have f11 := (F1.other W10 (Or.inr (slot_ne (Or.inr (hw _ (List.mem_of_getElem? (i := 15) rfl))) (Or.inr (hw _ (List.mem_of_getElem? (i := 13) rfl))) (by decide) (t := .boolean) (t' := (.object "java/math/BigDecimal")) (by decide) (by decide))))
  have f12 := (E0.wr W10)
  obtain ⟨T13, h13, X13, e13, W13, st13⟩ := putFN X10 hx hZ hown (hw _ (List.mem_of_getElem? (i := 14) rfl)) Via.refl e10 f11 f12 (Or.inr ⟨(hw _ (List.mem_of_getElem? (i := 15) rfl)), rfl, hnm⟩) (hw _ (List.mem_of_getElem? (i := 1) rfl)) (ty := .boolean) (v' := (.int (1 : Int32))) (by decide) rfl (by decide) (g := (mkF m 11 #[.val (.ref a), .val .null, .val (.int (1 : Int32))] [(.int (1 : Int32)), (.ref a)])) rfl rfl (hb hby own_d1_11)
  have Fw13 := f11.same W13
  have N13 := Fr.snoc X13 N10 g0
  have O13 := O10.wr W13 g0
  have K13 := K10.wr W13 (Or.inl (by simp))
  refine own_go (B := T13.setTop (mkF m 14 #[.val (.ref a), .val .null, .val (.int (1 : Int32))] [])) (fun t k => st13 _ k) ?_
  obtain ⟨fs, hr, hrun, hended, hW, hsame⟩ := X13.leave (v := none) (fun _ => rfl)
  have f15 := (f12.wr W13)
  have f16 := (Fw10.other W13 (Or.inr (slot_ne (Or.inr (hw _ (List.mem_of_getElem? (i := 13) rfl))) (Or.inr (hw _ (List.mem_of_getElem? (i := 15) rfl))) (by decide) (t := (.object "java/math/BigDecimal")) (t' := .boolean) (by decide) (by decide))))
  refine ⟨_, _, X13.returnOut hx Bd.returns (hb hby own_d1_14) hr, hK _ _ ⟨hrun, hended, _, _, rfl, ?_, ⟨_, rfl⟩, hW, hsame.mono (by decide) (by decide)⟩⟩
  show own_Q_init1 Z a h0 n0 _ T13.heap _
  rw [e13]
  exact ⟨rfl, N13, K13, f15, f16, Fw13⟩
theorem own_d0_0 : decode prog_15_method_1_code 0 = .ok (.aload_n 0, 1) := by decide +kernel
theorem own_d0_1 : decode prog_15_method_1_code 1 = .ok (.aconst_null, 1) := by decide +kernel
theorem own_d0_2 : decode prog_15_method_1_code 2 = .ok (.iconst 0, 1) := by decide +kernel
theorem own_d0_3 : decode prog_15_method_1_code 3 = .ok (.invokespecial 1, 3) := by decide +kernel
theorem own_pd_0 : parseMethodDescriptor "(Ljava/math/BigDecimal;Z)V" = some ⟨[(.object "java/math/BigDecimal"), .boolean], none⟩ := by decide +kernel
theorem own_d0_6 : decode prog_15_method_1_code 6 = .ok (.return_, 1) := by decide +kernel
theorem own_ef_init (m : MethodId) (x0 : Addr)  : entryFrame m #[(.ref x0)] 1 = mkF m 0 #[.val (.ref x0)] [] := by first | (simp [entryFrame, mkF, argsToLocals, Value.category]; done) | rfl
def own_Q_init (Z : State) (a : Addr) (h0 : Heap) (n0 : Nat) (v : Option Value) (h : Heap) (L : List Loc) : Prop := v = none ∧ Fr n0 L ∧ Keep h0 h [a] ∧ Exa Z h a "com/example/omrakning/omrakning/IssueTerms" ∧ Fld Z h a "com/example/omrakning/omrakning/IssueTerms" "discountThreshold" "Ljava/math/BigDecimal;" .null ∧ Fld Z h a "com/example/omrakning/omrakning/IssueTerms" "parityProtection" "Z" (.int (0 : Int32))
set_option maxRecDepth 65536 in
set_option maxHeartbeats 40000000 in
theorem own_rm_init (l : Launch) (Z : State) (a0 : Array Value) (hw : ∀ d ∈ tables_1, d.before a0 Z = true) (ws : List Jvm.Cond) (a : Addr) (h0 : Heap) (n0 : Nat) (O0 : Old Z n0 h0) (E0 : Exa Z h0 a "com/example/omrakning/omrakning/IssueTerms") (g0 : n0 ≤ a) (F0 : Fld Z h0 a "com/example/omrakning/omrakning/IssueTerms" "discountThreshold" "Ljava/math/BigDecimal;" .null) (F1 : Fld Z h0 a "com/example/omrakning/omrakning/IssueTerms" "parityProtection" "Z" (.int (0 : Int32))) :
    MetFree l (⟨"com/example/omrakning/omrakning/IssueTerms", "<init>", "()V"⟩ : MethodName) (head1 (Jvm.Cond.code (⟨"com/example/omrakning/omrakning/IssueTerms", "<init>", "()V"⟩ : MethodName) prog_15_method_1_code 1 none :: ws) ({ frames := 2, cells := 0, slots := 0, locals := 26 } : Room)) (fun ar9 U => ar9 = #[(.ref a)] ∧ Z.Warmed39 U.vm ∧ U.heap = h0) (fun _ _ _ _ _ => True) (fun _ U o U' => ∃ v L, o = .returned v ∧ own_Q_init Z a h0 n0 v U'.heap L ∧ FrameEnd U o U' L ({ frames := 2, cells := 0, slots := 0, locals := 26 } : Room).cells ({ frames := 2, cells := 0, slots := 0, locals := 26 } : Room).slots) := by
  refine MetFree.of_bodySF (plainFor_of_name own_pn_0) hisR ?_
  intro p e s m args below meth c s₁ Bd hml0 hP hK0
  obtain ⟨rfl, hZ, hh⟩ := hP
  have hx := Bd.exec
  have hby := Bd.bytes
  have hml : c.maxLocals = 1 := hml0
  have hown : s.vm.findClass "com/example/omrakning/omrakning/IssueTerms" = some m.cls := findClass_of_methodNamed Bd.named
  have hnm := (name_of_methodNamed Bd.named Bd.method).1
  have X0 : Stand p l e ({ frames := 2, cells := 0, slots := 0, locals := 26 } : Room) s m #[(.ref a)] below meth c s₁ [] 0 0 := Stand.of_body Bd
  have e0 : s₁.heap = h0 := by rw [← hh, Bd.state]; rfl
  have N0 := Fr.nil n0
  have K0 := Keep.refl h0 [a]
  refine own_open fun K hK => ?_
  refine own_go (B := s₁.setTop (mkF m 0 #[.val (.ref a)] [])) (fun t k => castTop (own_ef_init m a) k) ?_
  refine own_go (B := s₁.setTop (mkF m 1 #[.val (.ref a)] [(.ref a)])) (fun t k => XS.aloadN X0.here hx rfl (hb hby own_d0_0) rfl rfl k) ?_
  refine own_go (B := s₁.setTop (mkF m 2 #[.val (.ref a)] [.null, (.ref a)])) (fun t k => XS.aconstNull X0.here hx rfl (hb hby own_d0_1) k) ?_
  refine own_go (B := s₁.setTop (mkF m 3 #[.val (.ref a)] [(.int (0 : Int32)), .null, (.ref a)])) (fun t k => XS.iconst X0.here hx rfl (hb hby own_d0_2) k) ?_
  obtain ⟨_, _, ⟨T17, L17, k17, n17⟩, -, X17, ⟨Lc17, hQ17, l17, y17, z17⟩, st17⟩ := X0.specialBack hx (y := (⟨"com/example/omrakning/omrakning/IssueTerms", "<init>", "(Ljava/math/BigDecimal;Z)V"⟩ : MethodName)) rfl hown (mvT hZ (hw _ (List.mem_of_getElem? (i := 6) rfl))) (mvT hZ (hw _ (List.mem_of_getElem? (i := 7) rfl))) (mvT hZ (hw _ (List.mem_of_getElem? (i := 8) rfl))) (by decide) (backOf (W := 0) (own_rm_init0 l Z a0 hw [] a  h0 n0 O0 E0 g0 F0 F1) hZ (hw _ (List.mem_of_getElem? (i := 8) rfl)) (hw _ (List.mem_of_getElem? (i := 2) rfl)) (by decide) (by decide)) (g := (mkF m 3 #[.val (.ref a)] [(.int (0 : Int32)), .null, (.ref a)])) rfl (by rw [hml]; rfl) (Steps.refl _) (a := a) (argsL := [.null, (.int (0 : Int32))]) (rest := []) (lenOf own_pd_0 rfl) rfl (by show 2 * 0 + _ ≤ _; exact Nat.le_of_eq rfl) (hb hby own_d0_3) (fun _ _ => ⟨rfl, e0, (by decide : 0 + 0 ≤ _), (by decide : 0 + 0 ≤ _)⟩)
  dsimp only [Pt.U, Pt.locs, Pt.cells, Pt.slots] at X17 l17 y17 z17 st17 hQ17
  subst l17 y17 z17
  obtain ⟨rfl, N17q, Kc17, En17, Fn17_0, Fn17_1⟩ := hQ17
  have O17 := O0.keep Kc17 (allS g0 all0)
  have K17 := K0.trans Kc17 (allS (Or.inl (by simp)) all0)
  have N17 := Fr.app N0 N17q
  refine own_go (B := T17.setTop (mkF m 6 #[.val (.ref a)] [])) (fun t k => st17.trans k) ?_
  obtain ⟨fs, hr, hrun, hended, hW, hsame⟩ := X17.leave (v := none) (fun _ => rfl)
  have f19 := (E0.keep Kc17)
  refine ⟨_, _, X17.returnOut hx Bd.returns (hb hby own_d0_6) hr, hK _ _ ⟨hrun, hended, _, _, rfl, ?_, ⟨_, rfl⟩, hW, hsame.mono (by decide) (by decide)⟩⟩
  show own_Q_init Z a h0 n0 _ T17.heap _
  exact ⟨rfl, N17, K17, f19, Fn17_0, Fn17_1⟩
theorem own_d4_0 : decode prog_15_method_4_code 0 = .ok (.new 2, 3) := by decide +kernel
theorem own_d4_3 : decode prog_15_method_4_code 3 = .ok (.dup, 1) := by decide +kernel
theorem own_d4_4 : decode prog_15_method_4_code 4 = .ok (.aload_n 0, 1) := by decide +kernel
theorem own_d4_5 : decode prog_15_method_4_code 5 = .ok (.getfield 12, 3) := by decide +kernel
theorem own_d4_8 : decode prog_15_method_4_code 8 = .ok (.iconst 1, 1) := by decide +kernel
theorem own_d4_9 : decode prog_15_method_4_code 9 = .ok (.invokespecial 1, 3) := by decide +kernel
theorem own_d4_12 : decode prog_15_method_4_code 12 = .ok (.areturn, 1) := by decide +kernel
theorem own_ef_with (m : MethodId) (x0 : Addr)  : entryFrame m #[(.ref x0)] 1 = mkF m 0 #[.val (.ref x0)] [] := by first | (simp [entryFrame, mkF, argsToLocals, Value.category]; done) | rfl
def own_Q_with (Z : State) (a : Addr) (h0 : Heap) (n0 : Nat) (v : Option Value) (h : Heap) (L : List Loc) : Prop := ∃ r : Addr, v = some (.ref r) ∧ Fr n0 L ∧ Ext h0 h ∧ h0.size ≤ r ∧ Exa Z h r "com/example/omrakning/omrakning/IssueTerms" ∧ Fld Z h r "com/example/omrakning/omrakning/IssueTerms" "discountThreshold" "Ljava/math/BigDecimal;" .null ∧ Fld Z h r "com/example/omrakning/omrakning/IssueTerms" "parityProtection" "Z" (.int (1 : Int32))
set_option maxRecDepth 65536 in
set_option maxHeartbeats 40000000 in
theorem own_rm_with (l : Launch) (Z : State) (a0 : Array Value) (hw : ∀ d ∈ tables_1, d.before a0 Z = true) (ws : List Jvm.Cond) (a : Addr) (h0 : Heap) (n0 : Nat) (O0 : Old Z n0 h0) (F0 : Fld Z h0 a "com/example/omrakning/omrakning/IssueTerms" "discountThreshold" "Ljava/math/BigDecimal;" .null) :
    MetFree l (⟨"com/example/omrakning/omrakning/IssueTerms", "withParityProtection", "()Lcom/example/omrakning/omrakning/IssueTerms;"⟩ : MethodName) (head1 (Jvm.Cond.code (⟨"com/example/omrakning/omrakning/IssueTerms", "withParityProtection", "()Lcom/example/omrakning/omrakning/IssueTerms;"⟩ : MethodName) prog_15_method_4_code 1 (some (.object "com/example/omrakning/omrakning/IssueTerms")) :: ws) ({ frames := 2, cells := 1, slots := 2, locals := 27 } : Room)) (fun ar9 U => ar9 = #[(.ref a)] ∧ Z.Warmed39 U.vm ∧ U.heap = h0) (fun _ _ _ _ _ => True) (fun _ U o U' => ∃ v L, o = .returned v ∧ own_Q_with Z a h0 n0 v U'.heap L ∧ FrameEnd U o U' L ({ frames := 2, cells := 1, slots := 2, locals := 27 } : Room).cells ({ frames := 2, cells := 1, slots := 2, locals := 27 } : Room).slots) := by
  refine MetFree.of_bodySF (plainFor_of_name own_pn_0) hisR ?_
  intro p e s m args below meth c s₁ Bd hml0 hP hK0
  obtain ⟨rfl, hZ, hh⟩ := hP
  have hx := Bd.exec
  have hby := Bd.bytes
  have hml : c.maxLocals = 1 := hml0
  have hown : s.vm.findClass "com/example/omrakning/omrakning/IssueTerms" = some m.cls := findClass_of_methodNamed Bd.named
  have hnm := (name_of_methodNamed Bd.named Bd.method).1
  have X0 : Stand p l e ({ frames := 2, cells := 1, slots := 2, locals := 27 } : Room) s m #[(.ref a)] below meth c s₁ [] 0 0 := Stand.of_body Bd
  have e0 : s₁.heap = h0 := by rw [← hh, Bd.state]; rfl
  have N0 := Fr.nil n0
  have K0 := Keep.refl h0 []
  refine own_open fun K hK => ?_
  refine own_go (B := s₁.setTop (mkF m 0 #[.val (.ref a)] [])) (fun t k => castTop (own_ef_with m a) k) ?_
  obtain ⟨T20, h20, X20, e20, E20, A20, D20, -, st20⟩ := newO X0 hx hZ hown (hw _ (List.mem_of_getElem? (i := 21) rfl)) (hw _ (List.mem_of_getElem? (i := 1) rfl)) (hw _ (List.mem_of_getElem? (i := 2) rfl)) e0 (g := (mkF m 0 #[.val (.ref a)] [])) rfl (hb hby own_d4_0) (by decide) (by decide)
  obtain ⟨b20, g20⟩ : ∃ z, z = h0.size := ⟨_, rfl⟩
  rw [← g20] at A20 D20 st20
  have lt_a_20 := F0.lt
  have g_b20 : n0 ≤ b20 := Nat.le_trans (own_n0 O0) (Nat.le_of_eq g20.symm)
  have O20 := O0.ext E20
  have sz_b20 : h0.size ≤ b20 := Nat.le_trans K0.1 (Nat.le_of_eq g20.symm)
  have K20 := K0.ext E20
  have F20_13 : Fld Z h20 b20 "com/example/omrakning/omrakning/IssueTerms" "discountThreshold" "Ljava/math/BigDecimal;" .null := D20 (Or.inr (hw _ (List.mem_of_getElem? (i := 13) rfl))) (ty := (.object "java/math/BigDecimal")) (by decide)
  have F20_15 : Fld Z h20 b20 "com/example/omrakning/omrakning/IssueTerms" "parityProtection" "Z" (.int (0 : Int32)) := D20 (Or.inr (hw _ (List.mem_of_getElem? (i := 15) rfl))) (ty := .boolean) (by decide)
  refine own_go (B := T20.setTop (mkF m 3 #[.val (.ref a)] [(.ref b20)])) (fun t k => st20 _ k) ?_
  refine own_go (B := T20.setTop (mkF m 4 #[.val (.ref a)] [(.ref b20), (.ref b20)])) (fun t k => XS.dup X20.here hx rfl (hb hby own_d4_3) rfl rfl k) ?_
  refine own_go (B := T20.setTop (mkF m 5 #[.val (.ref a)] [(.ref a), (.ref b20), (.ref b20)])) (fun t k => XS.aloadN X20.here hx rfl (hb hby own_d4_4) rfl rfl k) ?_
  have f21 := (F0.ext E20)
  obtain ⟨T22, X22, e22, st22⟩ := getF X20 hx hZ hown (host := "") (Or.inl (hw _ (List.mem_of_getElem? (i := 12) rfl))) Via.refl e20 f21 (g := (mkF m 5 #[.val (.ref a)] [(.ref a), (.ref b20), (.ref b20)])) rfl rfl (hb hby own_d4_5)
  refine own_go (B := T22.setTop (mkF m 8 #[.val (.ref a)] [.null, (.ref b20), (.ref b20)])) (fun t k => st22 _ k) ?_
  refine own_go (B := T22.setTop (mkF m 9 #[.val (.ref a)] [(.int (1 : Int32)), .null, (.ref b20), (.ref b20)])) (fun t k => XS.iconst X22.here hx rfl (hb hby own_d4_8) k) ?_
  obtain ⟨_, _, ⟨T23, L23, k23, n23⟩, -, X23, ⟨Lc23, hQ23, l23, y23, z23⟩, st23⟩ := X22.specialBack hx (y := (⟨"com/example/omrakning/omrakning/IssueTerms", "<init>", "(Ljava/math/BigDecimal;Z)V"⟩ : MethodName)) rfl hown (mvT hZ (hw _ (List.mem_of_getElem? (i := 6) rfl))) (mvT hZ (hw _ (List.mem_of_getElem? (i := 7) rfl))) (mvT hZ (hw _ (List.mem_of_getElem? (i := 8) rfl))) (by decide) (backOf (W := 1) (own_rm_init1 l Z a0 hw [] b20  h20 n0 O20 A20 g_b20 F20_13 F20_15) hZ (hw _ (List.mem_of_getElem? (i := 8) rfl)) (hw _ (List.mem_of_getElem? (i := 2) rfl)) (by decide) (by decide)) (g := (mkF m 9 #[.val (.ref a)] [(.int (1 : Int32)), .null, (.ref b20), (.ref b20)])) rfl (by rw [hml]; rfl) (Steps.refl _) (a := b20) (argsL := [.null, (.int (1 : Int32))]) (rest := [(.ref b20)]) (lenOf own_pd_0 rfl) rfl (by show 2 * 0 + _ ≤ _; exact Nat.le_of_eq rfl) (hb hby own_d4_9) (fun _ _ => ⟨rfl, e22, (by decide : 1 + 0 ≤ _), (by decide : 2 + 0 ≤ _)⟩)
  dsimp only [Pt.U, Pt.locs, Pt.cells, Pt.slots] at X23 l23 y23 z23 st23 hQ23
  subst l23 y23 z23
  obtain ⟨rfl, N23q, Kc23, En23, Fn23_0, Fn23_1⟩ := hQ23
  have O23 := O20.keep Kc23 (allS g_b20 all0)
  have K23 := K20.trans Kc23 (allS (Or.inr sz_b20) all0)
  have N23 := Fr.app N0 N23q
  refine own_go (B := T23.setTop (mkF m 12 #[.val (.ref a)] [(.ref b20)])) (fun t k => st23.trans k) ?_
  obtain ⟨fs, hr, hrun, hended, hW, hsame⟩ := X23.leave (v := some (.ref b20)) (fun h => by rw [Bd.returns] at h; cases h)
  have f25 := (A20.keep Kc23)
  have Ex26 : Ext h0 T23.heap := ⟨K23.1, fun x c q => K23.2.1 x c q nin0⟩
  refine ⟨_, _, own_retA X23 hx Bd.returns rfl rfl (hb hby own_d4_12) hr, hK _ _ ⟨hrun, hended, _, _, rfl, ?_, ⟨_, rfl⟩, hW, hsame.mono (by decide) (by decide)⟩⟩
  show own_Q_with Z a h0 n0 _ T23.heap _
  exact ⟨b20, rfl, N23, Ex26, sz_b20, f25, Fn23_0, Fn23_1⟩
theorem own_d3_0 : decode prog_15_method_6_code 0 = .ok (.aload_n 0, 1) := by decide +kernel
theorem own_d3_1 : decode prog_15_method_6_code 1 = .ok (.getfield 16, 3) := by decide +kernel
theorem own_d3_4 : decode prog_15_method_6_code 4 = .ok (.ireturn, 1) := by decide +kernel
theorem own_ef_pp (m : MethodId) (x0 : Addr)  : entryFrame m #[(.ref x0)] 1 = mkF m 0 #[.val (.ref x0)] [] := by first | (simp [entryFrame, mkF, argsToLocals, Value.category]; done) | rfl
def own_Q_pp (Z : State) (a : Addr) (r : Int32) (h0 : Heap) (n0 : Nat) (v : Option Value) (h : Heap) (L : List Loc) : Prop := v = some (.int r) ∧ Fr n0 L ∧ h = h0
set_option maxRecDepth 65536 in
set_option maxHeartbeats 40000000 in
theorem own_rm_pp (l : Launch) (Z : State) (a0 : Array Value) (hw : ∀ d ∈ tables_1, d.before a0 Z = true) (ws : List Jvm.Cond) (a : Addr) (r : Int32) (h0 : Heap) (n0 : Nat) (O0 : Old Z n0 h0) (F0 : Fld Z h0 a "com/example/omrakning/omrakning/IssueTerms" "parityProtection" "Z" (.int r)) (hb0 : nar .boolean r = r) :
    MetFree l (⟨"com/example/omrakning/omrakning/IssueTerms", "parityProtection", "()Z"⟩ : MethodName) (head1 (Jvm.Cond.code (⟨"com/example/omrakning/omrakning/IssueTerms", "parityProtection", "()Z"⟩ : MethodName) prog_15_method_6_code 1 (some .boolean) :: ws) ({ frames := 0, cells := 0, slots := 0, locals := 0 } : Room)) (fun ar9 U => ar9 = #[(.ref a)] ∧ Z.Warmed39 U.vm ∧ U.heap = h0) (fun _ _ _ _ _ => True) (fun _ U o U' => ∃ v L, o = .returned v ∧ own_Q_pp Z a r h0 n0 v U'.heap L ∧ FrameEnd U o U' L ({ frames := 0, cells := 0, slots := 0, locals := 0 } : Room).cells ({ frames := 0, cells := 0, slots := 0, locals := 0 } : Room).slots) := by
  refine MetFree.of_bodySF (plainFor_of_name own_pn_0) hisR ?_
  intro p e s m args below meth c s₁ Bd hml0 hP hK0
  obtain ⟨rfl, hZ, hh⟩ := hP
  have hx := Bd.exec
  have hby := Bd.bytes
  have hml : c.maxLocals = 1 := hml0
  have hown : s.vm.findClass "com/example/omrakning/omrakning/IssueTerms" = some m.cls := findClass_of_methodNamed Bd.named
  have hnm := (name_of_methodNamed Bd.named Bd.method).1
  have X0 : Stand p l e ({ frames := 0, cells := 0, slots := 0, locals := 0 } : Room) s m #[(.ref a)] below meth c s₁ [] 0 0 := Stand.of_body Bd
  have e0 : s₁.heap = h0 := by rw [← hh, Bd.state]; rfl
  have N0 := Fr.nil n0
  refine own_open fun K hK => ?_
  refine own_go (B := s₁.setTop (mkF m 0 #[.val (.ref a)] [])) (fun t k => castTop (own_ef_pp m a) k) ?_
  refine own_go (B := s₁.setTop (mkF m 1 #[.val (.ref a)] [(.ref a)])) (fun t k => XS.aloadN X0.here hx rfl (hb hby own_d3_0) rfl rfl k) ?_
  obtain ⟨T27, X27, e27, st27⟩ := getF X0 hx hZ hown (host := "") (Or.inl (hw _ (List.mem_of_getElem? (i := 14) rfl))) Via.refl e0 F0 (g := (mkF m 1 #[.val (.ref a)] [(.ref a)])) rfl rfl (hb hby own_d3_1)
  refine own_go (B := T27.setTop (mkF m 4 #[.val (.ref a)] [(.int r)])) (fun t k => st27 _ k) ?_
  obtain ⟨fs, hr, hrun, hended, hW, hsame⟩ := X27.leave (v := some (.int (nar .boolean r))) (fun h => by rw [Bd.returns] at h; cases h)
  refine ⟨_, _, retN X27 hx (t := .boolean) Bd.returns (by simp) (hb hby own_d3_4) hr, hK _ _ ⟨hrun, hended, _, _, rfl, ?_, ⟨_, rfl⟩, hW, hsame.mono (by decide) (by decide)⟩⟩
  show own_Q_pp Z a r h0 n0 _ T27.heap _
  rw [e27]
  exact ⟨(by rw [hb0]), N0, rfl⟩
theorem own_d7_0 : decode jdk_32_method_4_code 0 = .ok (.aload_n 0, 1) := by decide +kernel
theorem own_d7_1 : decode jdk_32_method_4_code 1 = .ok (.ifnonnull 9, 3) := by decide +kernel
theorem own_d7_4 : decode jdk_32_method_4_code 4 = .ok (.getstatic 1, 3) := by decide +kernel
theorem own_d7_7 : decode jdk_32_method_4_code 7 = .ok (.goto 11, 3) := by decide +kernel
theorem own_d7_18 : decode jdk_32_method_4_code 18 = .ok (.areturn, 1) := by decide +kernel
theorem own_pn_1 : plainName "java/util/Optional" = true := by first | (simp [plainName, overriddenIn]; done) | decide +kernel
theorem own_ef_ofNull (m : MethodId)   : entryFrame m #[.null] 1 = mkF m 0 #[.val .null] [] := by first | (simp [entryFrame, mkF, argsToLocals, Value.category]; done) | rfl
def own_Q_ofNull (Z : State) (w_EMPTY : Addr) (h0 : Heap) (n0 : Nat) (v : Option Value) (h : Heap) (L : List Loc) : Prop := v = some (.ref w_EMPTY) ∧ Fr n0 L ∧ h = h0
set_option maxRecDepth 65536 in
set_option maxHeartbeats 40000000 in
theorem own_rm_ofNull (l : Launch) (Z : State) (a0 : Array Value) (hw : ∀ d ∈ tables_1, d.before a0 Z = true) (ws : List Jvm.Cond) (w_EMPTY : Addr) (h0 : Heap) (n0 : Nat) (O0 : Old Z n0 h0) (S_EMPTY : Sta Z Z.heap "java/util/Optional" "EMPTY" "Ljava/util/Optional;" (.ref w_EMPTY)) :
    MetFree l (⟨"java/util/Optional", "ofNullable", "(Ljava/lang/Object;)Ljava/util/Optional;"⟩ : MethodName) (head1 (Jvm.Cond.code (⟨"java/util/Optional", "ofNullable", "(Ljava/lang/Object;)Ljava/util/Optional;"⟩ : MethodName) jdk_32_method_4_code 1 (some (.object "java/util/Optional")) :: ws) ({ frames := 0, cells := 0, slots := 0, locals := 0 } : Room)) (fun ar9 U => ar9 = #[.null] ∧ Z.Warmed39 U.vm ∧ U.heap = h0) (fun _ _ _ _ _ => True) (fun _ U o U' => ∃ v L, o = .returned v ∧ own_Q_ofNull Z w_EMPTY h0 n0 v U'.heap L ∧ FrameEnd U o U' L ({ frames := 0, cells := 0, slots := 0, locals := 0 } : Room).cells ({ frames := 0, cells := 0, slots := 0, locals := 0 } : Room).slots) := by
  refine MetFree.of_bodySF (plainFor_of_name own_pn_1) hisR ?_
  intro p e s m args below meth c s₁ Bd hml0 hP hK0
  obtain ⟨rfl, hZ, hh⟩ := hP
  have hx := Bd.exec
  have hby := Bd.bytes
  have hml : c.maxLocals = 1 := hml0
  have hown : s.vm.findClass "java/util/Optional" = some m.cls := findClass_of_methodNamed Bd.named
  have hnm := (name_of_methodNamed Bd.named Bd.method).1
  have X0 : Stand p l e ({ frames := 0, cells := 0, slots := 0, locals := 0 } : Room) s m #[.null] below meth c s₁ [] 0 0 := Stand.of_body Bd
  have e0 : s₁.heap = h0 := by rw [← hh, Bd.state]; rfl
  have N0 := Fr.nil n0
  refine own_open fun K hK => ?_
  refine own_go (B := s₁.setTop (mkF m 0 #[.val .null] [])) (fun t k => castTop (own_ef_ofNull m ) k) ?_
  refine own_go (B := s₁.setTop (mkF m 1 #[.val .null] [.null])) (fun t k => XS.aloadN X0.here hx rfl (hb hby own_d7_0) rfl rfl k) ?_
  refine own_go (B := s₁.setTop (mkF m 4 #[.val .null] [])) (fun t k => XS.ifnonnullNo X0.here hx rfl (hb hby own_d7_1) rfl k) ?_
  obtain ⟨T29, X29, e29, st29⟩ := getS2 X0 hx hZ hown (host := "") (Or.inl (hw _ (List.mem_of_getElem? (i := 36) rfl))) Via.refl e0 (S_EMPTY.ext O0.2) (g := (mkF m 4 #[.val .null] [])) rfl (hb hby own_d7_4)
  refine own_go (B := T29.setTop (mkF m 7 #[.val .null] [(.ref w_EMPTY)])) (fun t k => st29 _ k) ?_
  refine own_go (B := T29.setTop (mkF m 18 #[.val .null] [(.ref w_EMPTY)])) (fun t k => XS.goto X29.here hx rfl (pc0 := 7) (pc' := 18) rfl (hb hby own_d7_7) (by decide) (by decide) k) ?_
  obtain ⟨fs, hr, hrun, hended, hW, hsame⟩ := X29.leave (v := some (.ref w_EMPTY)) (fun h => by rw [Bd.returns] at h; cases h)
  refine ⟨_, _, own_retA X29 hx Bd.returns rfl rfl (hb hby own_d7_18) hr, hK _ _ ⟨hrun, hended, _, _, rfl, ?_, ⟨_, rfl⟩, hW, hsame.mono (by decide) (by decide)⟩⟩
  show own_Q_ofNull Z w_EMPTY h0 n0 _ T29.heap _
  rw [e29]
  exact ⟨rfl, N0, rfl⟩
theorem own_d2_0 : decode prog_15_method_5_code 0 = .ok (.aload_n 0, 1) := by decide +kernel
theorem own_d2_1 : decode prog_15_method_5_code 1 = .ok (.getfield 12, 3) := by decide +kernel
theorem own_d2_4 : decode prog_15_method_5_code 4 = .ok (.invokestatic 30, 3) := by decide +kernel
theorem own_pd_1 : parseMethodDescriptor "(Ljava/lang/Object;)Ljava/util/Optional;" = some ⟨[(.object "java/lang/Object")], some (.object "java/util/Optional")⟩ := by decide +kernel
theorem own_d2_7 : decode prog_15_method_5_code 7 = .ok (.areturn, 1) := by decide +kernel
theorem own_ef_dt (m : MethodId) (x0 : Addr)  : entryFrame m #[(.ref x0)] 1 = mkF m 0 #[.val (.ref x0)] [] := by first | (simp [entryFrame, mkF, argsToLocals, Value.category]; done) | rfl
def own_Q_dt (Z : State) (a w_EMPTY : Addr) (h0 : Heap) (n0 : Nat) (v : Option Value) (h : Heap) (L : List Loc) : Prop := v = some (.ref w_EMPTY) ∧ Fr n0 L ∧ h = h0
set_option maxRecDepth 65536 in
set_option maxHeartbeats 40000000 in
theorem own_rm_dt (l : Launch) (Z : State) (a0 : Array Value) (hw : ∀ d ∈ tables_1, d.before a0 Z = true) (ws : List Jvm.Cond) (a w_EMPTY : Addr) (h0 : Heap) (n0 : Nat) (O0 : Old Z n0 h0) (S_EMPTY : Sta Z Z.heap "java/util/Optional" "EMPTY" "Ljava/util/Optional;" (.ref w_EMPTY)) (F0 : Fld Z h0 a "com/example/omrakning/omrakning/IssueTerms" "discountThreshold" "Ljava/math/BigDecimal;" .null) :
    MetFree l (⟨"com/example/omrakning/omrakning/IssueTerms", "discountThreshold", "()Ljava/util/Optional;"⟩ : MethodName) (head1 (Jvm.Cond.code (⟨"com/example/omrakning/omrakning/IssueTerms", "discountThreshold", "()Ljava/util/Optional;"⟩ : MethodName) prog_15_method_5_code 1 (some (.object "java/util/Optional")) :: ws) ({ frames := 1, cells := 0, slots := 0, locals := 12 } : Room)) (fun ar9 U => ar9 = #[(.ref a)] ∧ Z.Warmed39 U.vm ∧ U.heap = h0) (fun _ _ _ _ _ => True) (fun _ U o U' => ∃ v L, o = .returned v ∧ own_Q_dt Z a w_EMPTY h0 n0 v U'.heap L ∧ FrameEnd U o U' L ({ frames := 1, cells := 0, slots := 0, locals := 12 } : Room).cells ({ frames := 1, cells := 0, slots := 0, locals := 12 } : Room).slots) := by
  refine MetFree.of_bodySF (plainFor_of_name own_pn_0) hisR ?_
  intro p e s m args below meth c s₁ Bd hml0 hP hK0
  obtain ⟨rfl, hZ, hh⟩ := hP
  have hx := Bd.exec
  have hby := Bd.bytes
  have hml : c.maxLocals = 1 := hml0
  have hown : s.vm.findClass "com/example/omrakning/omrakning/IssueTerms" = some m.cls := findClass_of_methodNamed Bd.named
  have hnm := (name_of_methodNamed Bd.named Bd.method).1
  have X0 : Stand p l e ({ frames := 1, cells := 0, slots := 0, locals := 12 } : Room) s m #[(.ref a)] below meth c s₁ [] 0 0 := Stand.of_body Bd
  have e0 : s₁.heap = h0 := by rw [← hh, Bd.state]; rfl
  have N0 := Fr.nil n0
  refine own_open fun K hK => ?_
  refine own_go (B := s₁.setTop (mkF m 0 #[.val (.ref a)] [])) (fun t k => castTop (own_ef_dt m a) k) ?_
  refine own_go (B := s₁.setTop (mkF m 1 #[.val (.ref a)] [(.ref a)])) (fun t k => XS.aloadN X0.here hx rfl (hb hby own_d2_0) rfl rfl k) ?_
  obtain ⟨T31, X31, e31, st31⟩ := getF X0 hx hZ hown (host := "") (Or.inl (hw _ (List.mem_of_getElem? (i := 12) rfl))) Via.refl e0 F0 (g := (mkF m 1 #[.val (.ref a)] [(.ref a)])) rfl rfl (hb hby own_d2_1)
  refine own_go (B := T31.setTop (mkF m 4 #[.val (.ref a)] [.null])) (fun t k => st31 _ k) ?_
  obtain ⟨_, _, ⟨T32, L32, k32, n32⟩, -, X32, ⟨Lc32, hQ32, l32, y32, z32⟩, st32⟩ := Jvm.LawKit.callS X31 hx (y := (⟨"java/util/Optional", "ofNullable", "(Ljava/lang/Object;)Ljava/util/Optional;"⟩ : MethodName)) hown (mvT hZ (hw _ (List.mem_of_getElem? (i := 32) rfl))) (mvT hZ (hw _ (List.mem_of_getElem? (i := 33) rfl))) (mvT hZ (hw _ (List.mem_of_getElem? (i := 34) rfl))) (mvT hZ (hw _ (List.mem_of_getElem? (i := 35) rfl))) (by decide) (backOf (W := 0) (own_rm_ofNull l Z a0 hw [] w_EMPTY h0 n0 O0 S_EMPTY) hZ (hw _ (List.mem_of_getElem? (i := 35) rfl)) (hw _ (List.mem_of_getElem? (i := 34) rfl)) (by decide) (by decide)) (g := (mkF m 4 #[.val (.ref a)] [.null])) rfl (by rw [hml]; rfl) (argsL := [.null]) (rest := []) (lenOf own_pd_1 rfl) rfl (by show 2 * 0 + _ ≤ _; exact Nat.le_of_eq rfl) (hb hby own_d2_4) (fun _ _ => ⟨rfl, e31, (by decide : 0 + 0 ≤ _), (by decide : 0 + 0 ≤ _)⟩)
  dsimp only [Pt.U, Pt.locs, Pt.cells, Pt.slots] at X32 l32 y32 z32 st32 hQ32
  subst l32 y32 z32
  obtain ⟨rfl, N32q, eh32⟩ := hQ32
  have N32 := Fr.app N0 N32q
  refine own_go (B := T32.setTop (mkF m 7 #[.val (.ref a)] [(.ref w_EMPTY)])) (fun t k => st32 _ k) ?_
  obtain ⟨fs, hr, hrun, hended, hW, hsame⟩ := X32.leave (v := some (.ref w_EMPTY)) (fun h => by rw [Bd.returns] at h; cases h)
  refine ⟨_, _, own_retA X32 hx Bd.returns rfl rfl (hb hby own_d2_7) hr, hK _ _ ⟨hrun, hended, _, _, rfl, ?_, ⟨_, rfl⟩, hW, hsame.mono (by decide) (by decide)⟩⟩
  show own_Q_dt Z a w_EMPTY h0 n0 _ T32.heap _
  rw [eh32]
  exact ⟨rfl, N32, rfl⟩
theorem own_pd_2 : parseMethodDescriptor "()V" = some ⟨[], none⟩ := by decide +kernel
theorem own_pd_3 : parseMethodDescriptor "()Lcom/example/omrakning/omrakning/IssueTerms;" = some ⟨[], some (.object "com/example/omrakning/omrakning/IssueTerms")⟩ := by decide +kernel
theorem own_pd_4 : parseMethodDescriptor "()Z" = some ⟨[], some .boolean⟩ := by decide +kernel
theorem own_pd_5 : parseMethodDescriptor "()Ljava/util/Optional;" = some ⟨[], some (.object "java/util/Optional")⟩ := by decide +kernel
theorem own_pn_2 : plainName "com/example/omrakning/omrakning/IssueTermsWithParityProtectionPinLaw" = true := by first | (simp [plainName, overriddenIn]; done) | decide +kernel
theorem own_ef_law (m : MethodId) (x0 : Int32)  : entryFrame m #[(.int x0)] maxLocals = mkF m 0 #[.val (.int x0), .unset, .unset, .unset, .unset, .unset, .unset, .unset, .unset, .unset] [] := by first | (simp [entryFrame, mkF, argsToLocals, Value.category, maxLocals]; done) | rfl
def own_Q_law (Z : State) (p1 : Int32) (w_EMPTY : Addr) (h0 : Heap) (n0 : Nat) (v : Option Value) (h : Heap) (L : List Loc) : Prop := v = some (.int 1) ∧ Fr n0 L
set_option maxRecDepth 65536 in
set_option maxHeartbeats 40000000 in
theorem own_rm_law (l : Launch) (Z : State) (a0 : Array Value) (hw : ∀ d ∈ tables_1, d.before a0 Z = true) (ws : List Jvm.Cond) (p1 : Int32) (w_EMPTY : Addr) (h0 : Heap) (n0 : Nat) (O0 : Old Z n0 h0) (S_EMPTY : Sta Z Z.heap "java/util/Optional" "EMPTY" "Ljava/util/Optional;" (.ref w_EMPTY)) :
    MetFree l x (head1 (Jvm.Cond.code x code maxLocals ret :: ws) room_1) (fun ar9 U => ar9 = #[(.int p1)] ∧ Z.Warmed39 U.vm ∧ U.heap = h0) (fun _ _ _ _ _ => True) (fun _ U o U' => ∃ v L, o = .returned v ∧ own_Q_law Z p1 w_EMPTY h0 n0 v U'.heap L ∧ FrameEnd U o U' L room_1.cells room_1.slots) := by
  refine MetFree.of_bodySF (plainFor_of_name own_pn_2) hisR ?_
  intro p e s m args below meth c s₁ Bd hml0 hP hK0
  obtain ⟨rfl, hZ, hh⟩ := hP
  have hx := Bd.exec
  have hby := Bd.bytes
  have hml : c.maxLocals = 10 := hml0
  have hown : s.vm.findClass "com/example/omrakning/omrakning/IssueTermsWithParityProtectionPinLaw" = some m.cls := findClass_of_methodNamed Bd.named
  have hnm := (name_of_methodNamed Bd.named Bd.method).1
  have X0 : Stand p l e room_1 s m #[(.int p1)] below meth c s₁ [] 0 0 := Stand.of_body Bd
  have e0 : s₁.heap = h0 := by rw [← hh, Bd.state]; rfl
  have N0 := Fr.nil n0
  refine own_open fun K hK => ?_
  refine own_go (B := s₁.setTop (mkF m 0 #[.val (.int p1), .unset, .unset, .unset, .unset, .unset, .unset, .unset, .unset, .unset] [])) (fun t k => castTop (own_ef_law m p1) k) ?_
  refine own_go (B := s₁.setTop (mkF m 1 #[.val (.int p1), .unset, .unset, .unset, .unset, .unset, .unset, .unset, .unset, .unset] [(.int p1)])) (fun t k => XS.iloadN X0.here hx rfl (hb hby at_0) rfl k) ?_
  refine own_go (B := s₁.setTop (mkF m 2 #[.val (.int p1), .unset, .unset, .unset, .unset, .unset, .unset, .unset, .unset, .unset] [(.int (1 : Int32)), (.int p1)])) (fun t k => XS.iconst X0.here hx rfl (hb hby at_1) k) ?_
  refine own_go (B := s₁.setTop (mkF m 3 #[.val (.int p1), .unset, .unset, .unset, .unset, .unset, .unset, .unset, .unset, .unset] [(.int (p1 &&& (1 : Int32)))])) (fun t k => XS.iand X0.here hx rfl (hb hby at_2) rfl k) ?_
  by_cases hc3_34 : (p1 &&& (1 : Int32)) = (0 : Int32)
  · refine own_go (B := s₁.setTop (mkF m 10 #[.val (.int p1), .unset, .unset, .unset, .unset, .unset, .unset, .unset, .unset, .unset] [])) (fun t k => XS.ifYes X0.here hx rfl (pc0 := 3) (pc' := 10) rfl (hb hby at_3) rfl ((if0 _ _).trans (teq hc3_34).1) (by decide) (by decide) k) ?_
    refine own_go (B := s₁.setTop (mkF m 11 #[.val (.int p1), .unset, .unset, .unset, .unset, .unset, .unset, .unset, .unset, .unset] [(.int (0 : Int32))])) (fun t k => XS.iconst X0.here hx rfl (hb hby at_10) k) ?_
    refine own_go (B := s₁.setTop (mkF m 12 #[.val (.int p1), .val (.int (0 : Int32)), .unset, .unset, .unset, .unset, .unset, .unset, .unset, .unset] [])) (fun t k => XS.istoreN X0.here hx rfl (hb hby at_11) rfl (l' := #[.val (.int p1), .val (.int (0 : Int32)), .unset, .unset, .unset, .unset, .unset, .unset, .unset, .unset]) rfl k) ?_
    obtain ⟨T35, h35, X35, e35, E35, A35, D35, -, st35⟩ := newO X0 hx hZ hown (hw _ (List.mem_of_getElem? (i := 0) rfl)) (hw _ (List.mem_of_getElem? (i := 1) rfl)) (hw _ (List.mem_of_getElem? (i := 2) rfl)) e0 (g := (mkF m 12 #[.val (.int p1), .val (.int (0 : Int32)), .unset, .unset, .unset, .unset, .unset, .unset, .unset, .unset] [])) rfl (hb hby at_12) (by decide) (by decide)
    obtain ⟨b35, g35⟩ : ∃ z, z = h0.size := ⟨_, rfl⟩
    rw [← g35] at A35 D35 st35
    have g_b35 : n0 ≤ b35 := Nat.le_trans (own_n0 O0) (Nat.le_of_eq g35.symm)
    have O35 := O0.ext E35
    have F35_13 : Fld Z h35 b35 "com/example/omrakning/omrakning/IssueTerms" "discountThreshold" "Ljava/math/BigDecimal;" .null := D35 (Or.inr (hw _ (List.mem_of_getElem? (i := 13) rfl))) (ty := (.object "java/math/BigDecimal")) (by decide)
    have F35_15 : Fld Z h35 b35 "com/example/omrakning/omrakning/IssueTerms" "parityProtection" "Z" (.int (0 : Int32)) := D35 (Or.inr (hw _ (List.mem_of_getElem? (i := 15) rfl))) (ty := .boolean) (by decide)
    refine own_go (B := T35.setTop (mkF m 15 #[.val (.int p1), .val (.int (0 : Int32)), .unset, .unset, .unset, .unset, .unset, .unset, .unset, .unset] [(.ref b35)])) (fun t k => st35 _ k) ?_
    refine own_go (B := T35.setTop (mkF m 16 #[.val (.int p1), .val (.int (0 : Int32)), .unset, .unset, .unset, .unset, .unset, .unset, .unset, .unset] [(.ref b35), (.ref b35)])) (fun t k => XS.dup X35.here hx rfl (hb hby at_15) rfl rfl k) ?_
    obtain ⟨_, _, ⟨T36, L36, k36, n36⟩, -, X36, ⟨Lc36, hQ36, l36, y36, z36⟩, st36⟩ := X35.specialBack hx (y := (⟨"com/example/omrakning/omrakning/IssueTerms", "<init>", "()V"⟩ : MethodName)) rfl hown (mvT hZ (hw _ (List.mem_of_getElem? (i := 3) rfl))) (mvT hZ (hw _ (List.mem_of_getElem? (i := 4) rfl))) (mvT hZ (hw _ (List.mem_of_getElem? (i := 5) rfl))) (by decide) (backOf (W := 1) (own_rm_init l Z a0 hw [] b35  h35 n0 O35 A35 g_b35 F35_13 F35_15) hZ (hw _ (List.mem_of_getElem? (i := 5) rfl)) (hw _ (List.mem_of_getElem? (i := 2) rfl)) (by decide) (by decide)) (g := (mkF m 16 #[.val (.int p1), .val (.int (0 : Int32)), .unset, .unset, .unset, .unset, .unset, .unset, .unset, .unset] [(.ref b35), (.ref b35)])) rfl (by rw [hml]; rfl) (Steps.refl _) (a := b35) (argsL := []) (rest := [(.ref b35)]) (lenOf own_pd_2 rfl) rfl (by show 2 * 0 + _ ≤ _; exact Nat.le_of_eq rfl) (hb hby at_16) (fun _ _ => ⟨rfl, e35, (by decide : 1 + 0 ≤ _), (by decide : 2 + 0 ≤ _)⟩)
    dsimp only [Pt.U, Pt.locs, Pt.cells, Pt.slots] at X36 l36 y36 z36 st36 hQ36
    subst l36 y36 z36
    obtain ⟨rfl, N36q, Kc36, En36, Fn36_0, Fn36_1⟩ := hQ36
    have O36 := O35.keep Kc36 (allS g_b35 all0)
    have N36 := Fr.app N0 N36q
    refine own_go (B := T36.setTop (mkF m 19 #[.val (.int p1), .val (.int (0 : Int32)), .unset, .unset, .unset, .unset, .unset, .unset, .unset, .unset] [(.ref b35)])) (fun t k => st36.trans k) ?_
    refine own_go (B := T36.setTop (mkF m 20 #[.val (.int p1), .val (.int (0 : Int32)), .val (.ref b35), .unset, .unset, .unset, .unset, .unset, .unset, .unset] [])) (fun t k => XS.astoreN X36.here hx rfl (hb hby at_19) rfl rfl (l' := #[.val (.int p1), .val (.int (0 : Int32)), .val (.ref b35), .unset, .unset, .unset, .unset, .unset, .unset, .unset]) rfl k) ?_
    refine own_go (B := T36.setTop (mkF m 21 #[.val (.int p1), .val (.int (0 : Int32)), .val (.ref b35), .unset, .unset, .unset, .unset, .unset, .unset, .unset] [(.ref b35)])) (fun t k => XS.aloadN X36.here hx rfl (hb hby at_20) rfl rfl k) ?_
    have f38 := (A35.keep Kc36)
    have lt_b35_37 := f38.lt
    obtain ⟨cq39, kq39, q39a, q39b, q39c⟩ := isOf hZ (rfl : T36.heap = T36.heap) f38
    obtain ⟨_, _, ⟨T39, L39, k39, n39⟩, -, X39, ⟨Lc39, hQ39, l39, y39, z39⟩, st39⟩ := X36.virtualBack hx (y := (⟨"com/example/omrakning/omrakning/IssueTerms", "withParityProtection", "()Lcom/example/omrakning/omrakning/IssueTerms;"⟩ : MethodName)) (z := (⟨"com/example/omrakning/omrakning/IssueTerms", "withParityProtection", "()Lcom/example/omrakning/omrakning/IssueTerms;"⟩ : MethodName)) hown (mvT hZ (hw _ (List.mem_of_getElem? (i := 16) rfl))) (mvT hZ (hw _ (List.mem_of_getElem? (i := 17) rfl))) (notFace_of_selects (args := #[]) (mvT hZ (hw _ (List.mem_of_getElem? (i := 19) rfl)))) (mvT hZ (hw _ (List.mem_of_getElem? (i := 19) rfl))) (mvT hZ (hw _ (List.mem_of_getElem? (i := 18) rfl))) (by decide) (backOf (W := 0) (own_rm_with l Z a0 hw [] b35 T36.heap n0 O36 Fn36_0) hZ (hw _ (List.mem_of_getElem? (i := 20) rfl)) (hw _ (List.mem_of_getElem? (i := 2) rfl)) (by decide) (by decide)) q39a q39c (g := (mkF m 21 #[.val (.int p1), .val (.int (0 : Int32)), .val (.ref b35), .unset, .unset, .unset, .unset, .unset, .unset, .unset] [(.ref b35)])) rfl (by rw [hml]; rfl) (Steps.refl _) (argsL := []) (rest := []) (lenOf own_pd_3 rfl) rfl (by show 2 * 0 + _ ≤ _; exact Nat.le_of_eq rfl) (hb hby at_21) (fun _ _ => ⟨rfl, (rfl : T36.heap = T36.heap), (by decide : 1 + 1 ≤ _), (by decide : 2 + 2 ≤ _)⟩)
    dsimp only [Pt.U, Pt.locs, Pt.cells, Pt.slots] at X39 l39 y39 z39 st39 hQ39
    subst l39 y39 z39
    obtain ⟨r39, rfl, N39q, Kc39, ge39, Er39, Fa39, Fb39⟩ := hQ39
    have E39 := Kc39
    have O39 := O36.ext E39
    have N39 := Fr.app N36 N39q
    refine own_go (B := T39.setTop (mkF m 24 #[.val (.int p1), .val (.int (0 : Int32)), .val (.ref b35), .unset, .unset, .unset, .unset, .unset, .unset, .unset] [(.ref r39)])) (fun t k => st39.trans k) ?_
    have g_r39 : n0 ≤ r39 := Nat.le_trans (own_n0 O36) ge39
    refine own_go (B := T39.setTop (mkF m 25 #[.val (.int p1), .val (.int (0 : Int32)), .val (.ref b35), .val (.ref r39), .unset, .unset, .unset, .unset, .unset, .unset] [])) (fun t k => XS.astoreN X39.here hx rfl (hb hby at_24) rfl rfl (l' := #[.val (.int p1), .val (.int (0 : Int32)), .val (.ref b35), .val (.ref r39), .unset, .unset, .unset, .unset, .unset, .unset]) rfl k) ?_
    refine own_go (B := T39.setTop (mkF m 26 #[.val (.int p1), .val (.int (0 : Int32)), .val (.ref b35), .val (.ref r39), .unset, .unset, .unset, .unset, .unset, .unset] [(.int (0 : Int32))])) (fun t k => XS.iloadN X39.here hx rfl (hb hby at_25) rfl k) ?_
    refine own_go (B := T39.setTop (mkF m 36 #[.val (.int p1), .val (.int (0 : Int32)), .val (.ref b35), .val (.ref r39), .unset, .unset, .unset, .unset, .unset, .unset] [])) (fun t k => XS.ifYes X39.here hx rfl (pc0 := 26) (pc' := 36) rfl (hb hby at_26) rfl ((if0 _ _).trans (teq (by decide : (0 : Int32) = (0 : Int32))).1) (by decide) (by decide) k) ?_
    refine own_go (B := T39.setTop (mkF m 37 #[.val (.int p1), .val (.int (0 : Int32)), .val (.ref b35), .val (.ref r39), .unset, .unset, .unset, .unset, .unset, .unset] [(.ref r39)])) (fun t k => XS.aloadN X39.here hx rfl (hb hby at_36) rfl rfl k) ?_
    refine own_go (B := T39.setTop (mkF m 39 #[.val (.int p1), .val (.int (0 : Int32)), .val (.ref b35), .val (.ref r39), .val (.ref r39), .unset, .unset, .unset, .unset, .unset] [])) (fun t k => XS.astore X39.here hx rfl (hb hby at_37) rfl rfl (l' := #[.val (.int p1), .val (.int (0 : Int32)), .val (.ref b35), .val (.ref r39), .val (.ref r39), .unset, .unset, .unset, .unset, .unset]) rfl k) ?_
    refine own_go (B := T39.setTop (mkF m 40 #[.val (.int p1), .val (.int (0 : Int32)), .val (.ref b35), .val (.ref r39), .val (.ref r39), .unset, .unset, .unset, .unset, .unset] [(.ref b35)])) (fun t k => XS.aloadN X39.here hx rfl (hb hby at_39) rfl rfl k) ?_
    have f41 := (Fn36_1.ext E39)
    have f43 := (f38.ext E39)
    obtain ⟨cq42, kq42, q42a, q42b, q42c⟩ := isOf hZ (rfl : T39.heap = T39.heap) f43
    obtain ⟨_, _, ⟨T42, L42, k42, n42⟩, -, X42, ⟨Lc42, hQ42, l42, y42, z42⟩, st42⟩ := X39.virtualBack hx (y := (⟨"com/example/omrakning/omrakning/IssueTerms", "parityProtection", "()Z"⟩ : MethodName)) (z := (⟨"com/example/omrakning/omrakning/IssueTerms", "parityProtection", "()Z"⟩ : MethodName)) hown (mvT hZ (hw _ (List.mem_of_getElem? (i := 22) rfl))) (mvT hZ (hw _ (List.mem_of_getElem? (i := 23) rfl))) (notFace_of_selects (args := #[]) (mvT hZ (hw _ (List.mem_of_getElem? (i := 25) rfl)))) (mvT hZ (hw _ (List.mem_of_getElem? (i := 25) rfl))) (mvT hZ (hw _ (List.mem_of_getElem? (i := 24) rfl))) (by decide) (backOf (W := 0) (own_rm_pp l Z a0 hw [] b35 (0 : Int32) T39.heap n0 O39 f41 rfl) hZ (hw _ (List.mem_of_getElem? (i := 26) rfl)) (hw _ (List.mem_of_getElem? (i := 2) rfl)) (by decide) (by decide)) q42a q42c (g := (mkF m 40 #[.val (.int p1), .val (.int (0 : Int32)), .val (.ref b35), .val (.ref r39), .val (.ref r39), .unset, .unset, .unset, .unset, .unset] [(.ref b35)])) rfl (by rw [hml]; rfl) (Steps.refl _) (argsL := []) (rest := []) (lenOf own_pd_4 rfl) rfl (by show 2 * 0 + _ ≤ _; exact Nat.le_of_eq rfl) (hb hby at_40) (fun _ _ => ⟨rfl, (rfl : T39.heap = T39.heap), (by decide : 2 + 0 ≤ _), (by decide : 4 + 0 ≤ _)⟩)
    dsimp only [Pt.U, Pt.locs, Pt.cells, Pt.slots] at X42 l42 y42 z42 st42 hQ42
    subst l42 y42 z42
    obtain ⟨rfl, N42q, eh42⟩ := hQ42
    have N42 := Fr.app N39 N42q
    refine own_go (B := T42.setTop (mkF m 43 #[.val (.int p1), .val (.int (0 : Int32)), .val (.ref b35), .val (.ref r39), .val (.ref r39), .unset, .unset, .unset, .unset, .unset] [(.int (0 : Int32))])) (fun t k => st42.trans k) ?_
    refine own_go (B := T42.setTop (mkF m 46 #[.val (.int p1), .val (.int (0 : Int32)), .val (.ref b35), .val (.ref r39), .val (.ref r39), .unset, .unset, .unset, .unset, .unset] [])) (fun t k => XS.ifNo X42.here hx rfl (hb hby at_43) rfl ((if0 _ _).trans (teq (by decide : (0 : Int32) = (0 : Int32))).2) k) ?_
    refine own_go (B := T42.setTop (mkF m 47 #[.val (.int p1), .val (.int (0 : Int32)), .val (.ref b35), .val (.ref r39), .val (.ref r39), .unset, .unset, .unset, .unset, .unset] [(.int (1 : Int32))])) (fun t k => XS.iconst X42.here hx rfl (hb hby at_46) k) ?_
    refine own_go (B := T42.setTop (mkF m 51 #[.val (.int p1), .val (.int (0 : Int32)), .val (.ref b35), .val (.ref r39), .val (.ref r39), .unset, .unset, .unset, .unset, .unset] [(.int (1 : Int32))])) (fun t k => XS.goto X42.here hx rfl (pc0 := 47) (pc' := 51) rfl (hb hby at_47) (by decide) (by decide) k) ?_
    refine own_go (B := T42.setTop (mkF m 53 #[.val (.int p1), .val (.int (0 : Int32)), .val (.ref b35), .val (.ref r39), .val (.ref r39), .val (.int (1 : Int32)), .unset, .unset, .unset, .unset] [])) (fun t k => XS.istore X42.here hx rfl (hb hby at_51) rfl (l' := #[.val (.int p1), .val (.int (0 : Int32)), .val (.ref b35), .val (.ref r39), .val (.ref r39), .val (.int (1 : Int32)), .unset, .unset, .unset, .unset]) rfl k) ?_
    refine own_go (B := T42.setTop (mkF m 54 #[.val (.int p1), .val (.int (0 : Int32)), .val (.ref b35), .val (.ref r39), .val (.ref r39), .val (.int (1 : Int32)), .unset, .unset, .unset, .unset] [(.ref r39)])) (fun t k => XS.aloadN X42.here hx rfl (hb hby at_53) rfl rfl k) ?_
    obtain ⟨cq45, kq45, q45a, q45b, q45c⟩ := isOf hZ eh42 Er39
    obtain ⟨_, _, ⟨T45, L45, k45, n45⟩, -, X45, ⟨Lc45, hQ45, l45, y45, z45⟩, st45⟩ := X42.virtualBack hx (y := (⟨"com/example/omrakning/omrakning/IssueTerms", "parityProtection", "()Z"⟩ : MethodName)) (z := (⟨"com/example/omrakning/omrakning/IssueTerms", "parityProtection", "()Z"⟩ : MethodName)) hown (mvT hZ (hw _ (List.mem_of_getElem? (i := 22) rfl))) (mvT hZ (hw _ (List.mem_of_getElem? (i := 23) rfl))) (notFace_of_selects (args := #[]) (mvT hZ (hw _ (List.mem_of_getElem? (i := 25) rfl)))) (mvT hZ (hw _ (List.mem_of_getElem? (i := 25) rfl))) (mvT hZ (hw _ (List.mem_of_getElem? (i := 24) rfl))) (by decide) (backOf (W := 0) (own_rm_pp l Z a0 hw [] r39 (1 : Int32) T39.heap n0 O39 Fb39 rfl) hZ (hw _ (List.mem_of_getElem? (i := 26) rfl)) (hw _ (List.mem_of_getElem? (i := 2) rfl)) (by decide) (by decide)) q45a q45c (g := (mkF m 54 #[.val (.int p1), .val (.int (0 : Int32)), .val (.ref b35), .val (.ref r39), .val (.ref r39), .val (.int (1 : Int32)), .unset, .unset, .unset, .unset] [(.ref r39)])) rfl (by rw [hml]; rfl) (Steps.refl _) (argsL := []) (rest := []) (lenOf own_pd_4 rfl) rfl (by show 2 * 0 + _ ≤ _; exact Nat.le_of_eq rfl) (hb hby at_54) (fun _ _ => ⟨rfl, eh42, (by decide : 2 + 0 ≤ _), (by decide : 4 + 0 ≤ _)⟩)
    dsimp only [Pt.U, Pt.locs, Pt.cells, Pt.slots] at X45 l45 y45 z45 st45 hQ45
    subst l45 y45 z45
    obtain ⟨rfl, N45q, eh45⟩ := hQ45
    have N45 := Fr.app N42 N45q
    refine own_go (B := T45.setTop (mkF m 57 #[.val (.int p1), .val (.int (0 : Int32)), .val (.ref b35), .val (.ref r39), .val (.ref r39), .val (.int (1 : Int32)), .unset, .unset, .unset, .unset] [(.int (1 : Int32))])) (fun t k => st45.trans k) ?_
    refine own_go (B := T45.setTop (mkF m 59 #[.val (.int p1), .val (.int (0 : Int32)), .val (.ref b35), .val (.ref r39), .val (.ref r39), .val (.int (1 : Int32)), .val (.int (1 : Int32)), .unset, .unset, .unset] [])) (fun t k => XS.istore X45.here hx rfl (hb hby at_57) rfl (l' := #[.val (.int p1), .val (.int (0 : Int32)), .val (.ref b35), .val (.ref r39), .val (.ref r39), .val (.int (1 : Int32)), .val (.int (1 : Int32)), .unset, .unset, .unset]) rfl k) ?_
    refine own_go (B := T45.setTop (mkF m 61 #[.val (.int p1), .val (.int (0 : Int32)), .val (.ref b35), .val (.ref r39), .val (.ref r39), .val (.int (1 : Int32)), .val (.int (1 : Int32)), .unset, .unset, .unset] [(.ref r39)])) (fun t k => XS.aload X45.here hx rfl (hb hby at_59) rfl rfl k) ?_
    obtain ⟨cq46, kq46, q46a, q46b, q46c⟩ := isOf hZ eh45 Er39
    obtain ⟨_, _, ⟨T46, L46, k46, n46⟩, -, X46, ⟨Lc46, hQ46, l46, y46, z46⟩, st46⟩ := X45.virtualBack hx (y := (⟨"com/example/omrakning/omrakning/IssueTerms", "parityProtection", "()Z"⟩ : MethodName)) (z := (⟨"com/example/omrakning/omrakning/IssueTerms", "parityProtection", "()Z"⟩ : MethodName)) hown (mvT hZ (hw _ (List.mem_of_getElem? (i := 22) rfl))) (mvT hZ (hw _ (List.mem_of_getElem? (i := 23) rfl))) (notFace_of_selects (args := #[]) (mvT hZ (hw _ (List.mem_of_getElem? (i := 25) rfl)))) (mvT hZ (hw _ (List.mem_of_getElem? (i := 25) rfl))) (mvT hZ (hw _ (List.mem_of_getElem? (i := 24) rfl))) (by decide) (backOf (W := 0) (own_rm_pp l Z a0 hw [] r39 (1 : Int32) T39.heap n0 O39 Fb39 rfl) hZ (hw _ (List.mem_of_getElem? (i := 26) rfl)) (hw _ (List.mem_of_getElem? (i := 2) rfl)) (by decide) (by decide)) q46a q46c (g := (mkF m 61 #[.val (.int p1), .val (.int (0 : Int32)), .val (.ref b35), .val (.ref r39), .val (.ref r39), .val (.int (1 : Int32)), .val (.int (1 : Int32)), .unset, .unset, .unset] [(.ref r39)])) rfl (by rw [hml]; rfl) (Steps.refl _) (argsL := []) (rest := []) (lenOf own_pd_4 rfl) rfl (by show 2 * 0 + _ ≤ _; exact Nat.le_of_eq rfl) (hb hby at_61) (fun _ _ => ⟨rfl, eh45, (by decide : 2 + 0 ≤ _), (by decide : 4 + 0 ≤ _)⟩)
    dsimp only [Pt.U, Pt.locs, Pt.cells, Pt.slots] at X46 l46 y46 z46 st46 hQ46
    subst l46 y46 z46
    obtain ⟨rfl, N46q, eh46⟩ := hQ46
    have N46 := Fr.app N45 N46q
    refine own_go (B := T46.setTop (mkF m 64 #[.val (.int p1), .val (.int (0 : Int32)), .val (.ref b35), .val (.ref r39), .val (.ref r39), .val (.int (1 : Int32)), .val (.int (1 : Int32)), .unset, .unset, .unset] [(.int (1 : Int32))])) (fun t k => st46.trans k) ?_
    refine own_go (B := T46.setTop (mkF m 66 #[.val (.int p1), .val (.int (0 : Int32)), .val (.ref b35), .val (.ref r39), .val (.ref r39), .val (.int (1 : Int32)), .val (.int (1 : Int32)), .val (.int (1 : Int32)), .unset, .unset] [])) (fun t k => XS.istore X46.here hx rfl (hb hby at_64) rfl (l' := #[.val (.int p1), .val (.int (0 : Int32)), .val (.ref b35), .val (.ref r39), .val (.ref r39), .val (.int (1 : Int32)), .val (.int (1 : Int32)), .val (.int (1 : Int32)), .unset, .unset]) rfl k) ?_
    refine own_go (B := T46.setTop (mkF m 67 #[.val (.int p1), .val (.int (0 : Int32)), .val (.ref b35), .val (.ref r39), .val (.ref r39), .val (.int (1 : Int32)), .val (.int (1 : Int32)), .val (.int (1 : Int32)), .unset, .unset] [(.ref r39)])) (fun t k => XS.aloadN X46.here hx rfl (hb hby at_66) rfl rfl k) ?_
    obtain ⟨cq47, kq47, q47a, q47b, q47c⟩ := isOf hZ eh46 Er39
    obtain ⟨_, _, ⟨T47, L47, k47, n47⟩, -, X47, ⟨Lc47, hQ47, l47, y47, z47⟩, st47⟩ := X46.virtualBack hx (y := (⟨"com/example/omrakning/omrakning/IssueTerms", "discountThreshold", "()Ljava/util/Optional;"⟩ : MethodName)) (z := (⟨"com/example/omrakning/omrakning/IssueTerms", "discountThreshold", "()Ljava/util/Optional;"⟩ : MethodName)) hown (mvT hZ (hw _ (List.mem_of_getElem? (i := 27) rfl))) (mvT hZ (hw _ (List.mem_of_getElem? (i := 28) rfl))) (notFace_of_selects (args := #[]) (mvT hZ (hw _ (List.mem_of_getElem? (i := 30) rfl)))) (mvT hZ (hw _ (List.mem_of_getElem? (i := 30) rfl))) (mvT hZ (hw _ (List.mem_of_getElem? (i := 29) rfl))) (by decide) (backOf (W := 0) (own_rm_dt l Z a0 hw [] r39 w_EMPTY T39.heap n0 O39 S_EMPTY Fa39) hZ (hw _ (List.mem_of_getElem? (i := 31) rfl)) (hw _ (List.mem_of_getElem? (i := 2) rfl)) (by decide) (by decide)) q47a q47c (g := (mkF m 67 #[.val (.int p1), .val (.int (0 : Int32)), .val (.ref b35), .val (.ref r39), .val (.ref r39), .val (.int (1 : Int32)), .val (.int (1 : Int32)), .val (.int (1 : Int32)), .unset, .unset] [(.ref r39)])) rfl (by rw [hml]; rfl) (Steps.refl _) (argsL := []) (rest := []) (lenOf own_pd_5 rfl) rfl (by show 2 * 0 + _ ≤ _; exact Nat.le_of_eq rfl) (hb hby at_67) (fun _ _ => ⟨rfl, eh46, (by decide : 2 + 0 ≤ _), (by decide : 4 + 0 ≤ _)⟩)
    dsimp only [Pt.U, Pt.locs, Pt.cells, Pt.slots] at X47 l47 y47 z47 st47 hQ47
    subst l47 y47 z47
    obtain ⟨rfl, N47q, eh47⟩ := hQ47
    have N47 := Fr.app N46 N47q
    refine own_go (B := T47.setTop (mkF m 70 #[.val (.int p1), .val (.int (0 : Int32)), .val (.ref b35), .val (.ref r39), .val (.ref r39), .val (.int (1 : Int32)), .val (.int (1 : Int32)), .val (.int (1 : Int32)), .unset, .unset] [(.ref w_EMPTY)])) (fun t k => st47.trans k) ?_
    refine own_go (B := T47.setTop (mkF m 71 #[.val (.int p1), .val (.int (0 : Int32)), .val (.ref b35), .val (.ref r39), .val (.ref r39), .val (.int (1 : Int32)), .val (.int (1 : Int32)), .val (.int (1 : Int32)), .unset, .unset] [(.ref b35), (.ref w_EMPTY)])) (fun t k => XS.aloadN X47.here hx rfl (hb hby at_70) rfl rfl k) ?_
    have f48 := (Fn36_0.ext E39)
    obtain ⟨cq49, kq49, q49a, q49b, q49c⟩ := isOf hZ eh47 f43
    obtain ⟨_, _, ⟨T49, L49, k49, n49⟩, -, X49, ⟨Lc49, hQ49, l49, y49, z49⟩, st49⟩ := X47.virtualBack hx (y := (⟨"com/example/omrakning/omrakning/IssueTerms", "discountThreshold", "()Ljava/util/Optional;"⟩ : MethodName)) (z := (⟨"com/example/omrakning/omrakning/IssueTerms", "discountThreshold", "()Ljava/util/Optional;"⟩ : MethodName)) hown (mvT hZ (hw _ (List.mem_of_getElem? (i := 27) rfl))) (mvT hZ (hw _ (List.mem_of_getElem? (i := 28) rfl))) (notFace_of_selects (args := #[]) (mvT hZ (hw _ (List.mem_of_getElem? (i := 30) rfl)))) (mvT hZ (hw _ (List.mem_of_getElem? (i := 30) rfl))) (mvT hZ (hw _ (List.mem_of_getElem? (i := 29) rfl))) (by decide) (backOf (W := 1) (own_rm_dt l Z a0 hw [] b35 w_EMPTY T39.heap n0 O39 S_EMPTY f48) hZ (hw _ (List.mem_of_getElem? (i := 31) rfl)) (hw _ (List.mem_of_getElem? (i := 2) rfl)) (by decide) (by decide)) q49a q49c (g := (mkF m 71 #[.val (.int p1), .val (.int (0 : Int32)), .val (.ref b35), .val (.ref r39), .val (.ref r39), .val (.int (1 : Int32)), .val (.int (1 : Int32)), .val (.int (1 : Int32)), .unset, .unset] [(.ref b35), (.ref w_EMPTY)])) rfl (by rw [hml]; rfl) (Steps.refl _) (argsL := []) (rest := [(.ref w_EMPTY)]) (lenOf own_pd_5 rfl) rfl (by show 2 * 0 + _ ≤ _; exact Nat.le_of_eq rfl) (hb hby at_71) (fun _ _ => ⟨rfl, eh47, (by decide : 2 + 0 ≤ _), (by decide : 4 + 0 ≤ _)⟩)
    dsimp only [Pt.U, Pt.locs, Pt.cells, Pt.slots] at X49 l49 y49 z49 st49 hQ49
    subst l49 y49 z49
    obtain ⟨rfl, N49q, eh49⟩ := hQ49
    have N49 := Fr.app N47 N49q
    refine own_go (B := T49.setTop (mkF m 74 #[.val (.int p1), .val (.int (0 : Int32)), .val (.ref b35), .val (.ref r39), .val (.ref r39), .val (.int (1 : Int32)), .val (.int (1 : Int32)), .val (.int (1 : Int32)), .unset, .unset] [(.ref w_EMPTY), (.ref w_EMPTY)])) (fun t k => st49.trans k) ?_
    refine own_go (B := T49.setTop (mkF m 77 #[.val (.int p1), .val (.int (0 : Int32)), .val (.ref b35), .val (.ref r39), .val (.ref r39), .val (.int (1 : Int32)), .val (.int (1 : Int32)), .val (.int (1 : Int32)), .unset, .unset] [])) (fun t k => Jvm.RoadKit.acmp (g := (mkF m 74 #[.val (.int p1), .val (.int (0 : Int32)), .val (.ref b35), .val (.ref r39), .val (.ref r39), .val (.int (1 : Int32)), .val (.int (1 : Int32)), .val (.int (1 : Int32)), .unset, .unset] [(.ref w_EMPTY), (.ref w_EMPTY)])) X49 hx rfl rfl rfl (pc0 := 74) (pc' := 77) (same := true) rfl (hb hby at_74) rfl (decide_eq_true rfl) (by decide) (by decide) k) ?_
    refine own_go (B := T49.setTop (mkF m 78 #[.val (.int p1), .val (.int (0 : Int32)), .val (.ref b35), .val (.ref r39), .val (.ref r39), .val (.int (1 : Int32)), .val (.int (1 : Int32)), .val (.int (1 : Int32)), .unset, .unset] [(.int (1 : Int32))])) (fun t k => XS.iconst X49.here hx rfl (hb hby at_77) k) ?_
    refine own_go (B := T49.setTop (mkF m 82 #[.val (.int p1), .val (.int (0 : Int32)), .val (.ref b35), .val (.ref r39), .val (.ref r39), .val (.int (1 : Int32)), .val (.int (1 : Int32)), .val (.int (1 : Int32)), .unset, .unset] [(.int (1 : Int32))])) (fun t k => XS.goto X49.here hx rfl (pc0 := 78) (pc' := 82) rfl (hb hby at_78) (by decide) (by decide) k) ?_
    refine own_go (B := T49.setTop (mkF m 84 #[.val (.int p1), .val (.int (0 : Int32)), .val (.ref b35), .val (.ref r39), .val (.ref r39), .val (.int (1 : Int32)), .val (.int (1 : Int32)), .val (.int (1 : Int32)), .val (.int (1 : Int32)), .unset] [])) (fun t k => XS.istore X49.here hx rfl (hb hby at_82) rfl (l' := #[.val (.int p1), .val (.int (0 : Int32)), .val (.ref b35), .val (.ref r39), .val (.ref r39), .val (.int (1 : Int32)), .val (.int (1 : Int32)), .val (.int (1 : Int32)), .val (.int (1 : Int32)), .unset]) rfl k) ?_
    refine own_go (B := T49.setTop (mkF m 86 #[.val (.int p1), .val (.int (0 : Int32)), .val (.ref b35), .val (.ref r39), .val (.ref r39), .val (.int (1 : Int32)), .val (.int (1 : Int32)), .val (.int (1 : Int32)), .val (.int (1 : Int32)), .unset] [(.ref r39)])) (fun t k => XS.aload X49.here hx rfl (hb hby at_84) rfl rfl k) ?_
    obtain ⟨cq50, kq50, q50a, q50b, q50c⟩ := isOf hZ eh49 Er39
    obtain ⟨_, _, ⟨T50, L50, k50, n50⟩, -, X50, ⟨Lc50, hQ50, l50, y50, z50⟩, st50⟩ := X49.virtualBack hx (y := (⟨"com/example/omrakning/omrakning/IssueTerms", "discountThreshold", "()Ljava/util/Optional;"⟩ : MethodName)) (z := (⟨"com/example/omrakning/omrakning/IssueTerms", "discountThreshold", "()Ljava/util/Optional;"⟩ : MethodName)) hown (mvT hZ (hw _ (List.mem_of_getElem? (i := 27) rfl))) (mvT hZ (hw _ (List.mem_of_getElem? (i := 28) rfl))) (notFace_of_selects (args := #[]) (mvT hZ (hw _ (List.mem_of_getElem? (i := 30) rfl)))) (mvT hZ (hw _ (List.mem_of_getElem? (i := 30) rfl))) (mvT hZ (hw _ (List.mem_of_getElem? (i := 29) rfl))) (by decide) (backOf (W := 0) (own_rm_dt l Z a0 hw [] r39 w_EMPTY T39.heap n0 O39 S_EMPTY Fa39) hZ (hw _ (List.mem_of_getElem? (i := 31) rfl)) (hw _ (List.mem_of_getElem? (i := 2) rfl)) (by decide) (by decide)) q50a q50c (g := (mkF m 86 #[.val (.int p1), .val (.int (0 : Int32)), .val (.ref b35), .val (.ref r39), .val (.ref r39), .val (.int (1 : Int32)), .val (.int (1 : Int32)), .val (.int (1 : Int32)), .val (.int (1 : Int32)), .unset] [(.ref r39)])) rfl (by rw [hml]; rfl) (Steps.refl _) (argsL := []) (rest := []) (lenOf own_pd_5 rfl) rfl (by show 2 * 0 + _ ≤ _; exact Nat.le_of_eq rfl) (hb hby at_86) (fun _ _ => ⟨rfl, eh49, (by decide : 2 + 0 ≤ _), (by decide : 4 + 0 ≤ _)⟩)
    dsimp only [Pt.U, Pt.locs, Pt.cells, Pt.slots] at X50 l50 y50 z50 st50 hQ50
    subst l50 y50 z50
    obtain ⟨rfl, N50q, eh50⟩ := hQ50
    have N50 := Fr.app N49 N50q
    refine own_go (B := T50.setTop (mkF m 89 #[.val (.int p1), .val (.int (0 : Int32)), .val (.ref b35), .val (.ref r39), .val (.ref r39), .val (.int (1 : Int32)), .val (.int (1 : Int32)), .val (.int (1 : Int32)), .val (.int (1 : Int32)), .unset] [(.ref w_EMPTY)])) (fun t k => st50.trans k) ?_
    refine own_go (B := T50.setTop (mkF m 90 #[.val (.int p1), .val (.int (0 : Int32)), .val (.ref b35), .val (.ref r39), .val (.ref r39), .val (.int (1 : Int32)), .val (.int (1 : Int32)), .val (.int (1 : Int32)), .val (.int (1 : Int32)), .unset] [(.ref b35), (.ref w_EMPTY)])) (fun t k => XS.aloadN X50.here hx rfl (hb hby at_89) rfl rfl k) ?_
    obtain ⟨cq51, kq51, q51a, q51b, q51c⟩ := isOf hZ eh50 f43
    obtain ⟨_, _, ⟨T51, L51, k51, n51⟩, -, X51, ⟨Lc51, hQ51, l51, y51, z51⟩, st51⟩ := X50.virtualBack hx (y := (⟨"com/example/omrakning/omrakning/IssueTerms", "discountThreshold", "()Ljava/util/Optional;"⟩ : MethodName)) (z := (⟨"com/example/omrakning/omrakning/IssueTerms", "discountThreshold", "()Ljava/util/Optional;"⟩ : MethodName)) hown (mvT hZ (hw _ (List.mem_of_getElem? (i := 27) rfl))) (mvT hZ (hw _ (List.mem_of_getElem? (i := 28) rfl))) (notFace_of_selects (args := #[]) (mvT hZ (hw _ (List.mem_of_getElem? (i := 30) rfl)))) (mvT hZ (hw _ (List.mem_of_getElem? (i := 30) rfl))) (mvT hZ (hw _ (List.mem_of_getElem? (i := 29) rfl))) (by decide) (backOf (W := 1) (own_rm_dt l Z a0 hw [] b35 w_EMPTY T39.heap n0 O39 S_EMPTY f48) hZ (hw _ (List.mem_of_getElem? (i := 31) rfl)) (hw _ (List.mem_of_getElem? (i := 2) rfl)) (by decide) (by decide)) q51a q51c (g := (mkF m 90 #[.val (.int p1), .val (.int (0 : Int32)), .val (.ref b35), .val (.ref r39), .val (.ref r39), .val (.int (1 : Int32)), .val (.int (1 : Int32)), .val (.int (1 : Int32)), .val (.int (1 : Int32)), .unset] [(.ref b35), (.ref w_EMPTY)])) rfl (by rw [hml]; rfl) (Steps.refl _) (argsL := []) (rest := [(.ref w_EMPTY)]) (lenOf own_pd_5 rfl) rfl (by show 2 * 0 + _ ≤ _; exact Nat.le_of_eq rfl) (hb hby at_90) (fun _ _ => ⟨rfl, eh50, (by decide : 2 + 0 ≤ _), (by decide : 4 + 0 ≤ _)⟩)
    dsimp only [Pt.U, Pt.locs, Pt.cells, Pt.slots] at X51 l51 y51 z51 st51 hQ51
    subst l51 y51 z51
    obtain ⟨rfl, N51q, eh51⟩ := hQ51
    have N51 := Fr.app N50 N51q
    refine own_go (B := T51.setTop (mkF m 93 #[.val (.int p1), .val (.int (0 : Int32)), .val (.ref b35), .val (.ref r39), .val (.ref r39), .val (.int (1 : Int32)), .val (.int (1 : Int32)), .val (.int (1 : Int32)), .val (.int (1 : Int32)), .unset] [(.ref w_EMPTY), (.ref w_EMPTY)])) (fun t k => st51.trans k) ?_
    refine own_go (B := T51.setTop (mkF m 96 #[.val (.int p1), .val (.int (0 : Int32)), .val (.ref b35), .val (.ref r39), .val (.ref r39), .val (.int (1 : Int32)), .val (.int (1 : Int32)), .val (.int (1 : Int32)), .val (.int (1 : Int32)), .unset] [])) (fun t k => Jvm.RoadKit.acmp (g := (mkF m 93 #[.val (.int p1), .val (.int (0 : Int32)), .val (.ref b35), .val (.ref r39), .val (.ref r39), .val (.int (1 : Int32)), .val (.int (1 : Int32)), .val (.int (1 : Int32)), .val (.int (1 : Int32)), .unset] [(.ref w_EMPTY), (.ref w_EMPTY)])) X51 hx rfl rfl rfl (pc0 := 93) (pc' := 96) (same := true) rfl (hb hby at_93) rfl (decide_eq_true rfl) (by decide) (by decide) k) ?_
    refine own_go (B := T51.setTop (mkF m 97 #[.val (.int p1), .val (.int (0 : Int32)), .val (.ref b35), .val (.ref r39), .val (.ref r39), .val (.int (1 : Int32)), .val (.int (1 : Int32)), .val (.int (1 : Int32)), .val (.int (1 : Int32)), .unset] [(.int (1 : Int32))])) (fun t k => XS.iconst X51.here hx rfl (hb hby at_96) k) ?_
    refine own_go (B := T51.setTop (mkF m 101 #[.val (.int p1), .val (.int (0 : Int32)), .val (.ref b35), .val (.ref r39), .val (.ref r39), .val (.int (1 : Int32)), .val (.int (1 : Int32)), .val (.int (1 : Int32)), .val (.int (1 : Int32)), .unset] [(.int (1 : Int32))])) (fun t k => XS.goto X51.here hx rfl (pc0 := 97) (pc' := 101) rfl (hb hby at_97) (by decide) (by decide) k) ?_
    refine own_go (B := T51.setTop (mkF m 103 #[.val (.int p1), .val (.int (0 : Int32)), .val (.ref b35), .val (.ref r39), .val (.ref r39), .val (.int (1 : Int32)), .val (.int (1 : Int32)), .val (.int (1 : Int32)), .val (.int (1 : Int32)), .val (.int (1 : Int32))] [])) (fun t k => XS.istore X51.here hx rfl (hb hby at_101) rfl (l' := #[.val (.int p1), .val (.int (0 : Int32)), .val (.ref b35), .val (.ref r39), .val (.ref r39), .val (.int (1 : Int32)), .val (.int (1 : Int32)), .val (.int (1 : Int32)), .val (.int (1 : Int32)), .val (.int (1 : Int32))]) rfl k) ?_
    refine own_go (B := T51.setTop (mkF m 105 #[.val (.int p1), .val (.int (0 : Int32)), .val (.ref b35), .val (.ref r39), .val (.ref r39), .val (.int (1 : Int32)), .val (.int (1 : Int32)), .val (.int (1 : Int32)), .val (.int (1 : Int32)), .val (.int (1 : Int32))] [(.int (1 : Int32))])) (fun t k => XS.iload X51.here hx rfl (hb hby at_103) rfl k) ?_
    refine own_go (B := T51.setTop (mkF m 108 #[.val (.int p1), .val (.int (0 : Int32)), .val (.ref b35), .val (.ref r39), .val (.ref r39), .val (.int (1 : Int32)), .val (.int (1 : Int32)), .val (.int (1 : Int32)), .val (.int (1 : Int32)), .val (.int (1 : Int32))] [])) (fun t k => XS.ifNo X51.here hx rfl (hb hby at_105) rfl ((if0 _ _).trans (feq (by decide : ¬ ((1 : Int32) = (0 : Int32)))).1) k) ?_
    refine own_go (B := T51.setTop (mkF m 110 #[.val (.int p1), .val (.int (0 : Int32)), .val (.ref b35), .val (.ref r39), .val (.ref r39), .val (.int (1 : Int32)), .val (.int (1 : Int32)), .val (.int (1 : Int32)), .val (.int (1 : Int32)), .val (.int (1 : Int32))] [(.int (1 : Int32))])) (fun t k => XS.iload X51.here hx rfl (hb hby at_108) rfl k) ?_
    refine own_go (B := T51.setTop (mkF m 113 #[.val (.int p1), .val (.int (0 : Int32)), .val (.ref b35), .val (.ref r39), .val (.ref r39), .val (.int (1 : Int32)), .val (.int (1 : Int32)), .val (.int (1 : Int32)), .val (.int (1 : Int32)), .val (.int (1 : Int32))] [])) (fun t k => XS.ifNo X51.here hx rfl (hb hby at_110) rfl ((if0 _ _).trans (feq (by decide : ¬ ((1 : Int32) = (0 : Int32)))).1) k) ?_
    refine own_go (B := T51.setTop (mkF m 115 #[.val (.int p1), .val (.int (0 : Int32)), .val (.ref b35), .val (.ref r39), .val (.ref r39), .val (.int (1 : Int32)), .val (.int (1 : Int32)), .val (.int (1 : Int32)), .val (.int (1 : Int32)), .val (.int (1 : Int32))] [(.int (1 : Int32))])) (fun t k => XS.iload X51.here hx rfl (hb hby at_113) rfl k) ?_
    refine own_go (B := T51.setTop (mkF m 118 #[.val (.int p1), .val (.int (0 : Int32)), .val (.ref b35), .val (.ref r39), .val (.ref r39), .val (.int (1 : Int32)), .val (.int (1 : Int32)), .val (.int (1 : Int32)), .val (.int (1 : Int32)), .val (.int (1 : Int32))] [])) (fun t k => XS.ifNo X51.here hx rfl (hb hby at_115) rfl ((if0 _ _).trans (feq (by decide : ¬ ((1 : Int32) = (0 : Int32)))).1) k) ?_
    refine own_go (B := T51.setTop (mkF m 120 #[.val (.int p1), .val (.int (0 : Int32)), .val (.ref b35), .val (.ref r39), .val (.ref r39), .val (.int (1 : Int32)), .val (.int (1 : Int32)), .val (.int (1 : Int32)), .val (.int (1 : Int32)), .val (.int (1 : Int32))] [(.int (1 : Int32))])) (fun t k => XS.iload X51.here hx rfl (hb hby at_118) rfl k) ?_
    refine own_go (B := T51.setTop (mkF m 123 #[.val (.int p1), .val (.int (0 : Int32)), .val (.ref b35), .val (.ref r39), .val (.ref r39), .val (.int (1 : Int32)), .val (.int (1 : Int32)), .val (.int (1 : Int32)), .val (.int (1 : Int32)), .val (.int (1 : Int32))] [])) (fun t k => XS.ifNo X51.here hx rfl (hb hby at_120) rfl ((if0 _ _).trans (feq (by decide : ¬ ((1 : Int32) = (0 : Int32)))).1) k) ?_
    refine own_go (B := T51.setTop (mkF m 125 #[.val (.int p1), .val (.int (0 : Int32)), .val (.ref b35), .val (.ref r39), .val (.ref r39), .val (.int (1 : Int32)), .val (.int (1 : Int32)), .val (.int (1 : Int32)), .val (.int (1 : Int32)), .val (.int (1 : Int32))] [(.int (1 : Int32))])) (fun t k => XS.iload X51.here hx rfl (hb hby at_123) rfl k) ?_
    refine own_go (B := T51.setTop (mkF m 128 #[.val (.int p1), .val (.int (0 : Int32)), .val (.ref b35), .val (.ref r39), .val (.ref r39), .val (.int (1 : Int32)), .val (.int (1 : Int32)), .val (.int (1 : Int32)), .val (.int (1 : Int32)), .val (.int (1 : Int32))] [])) (fun t k => XS.ifNo X51.here hx rfl (hb hby at_125) rfl ((if0 _ _).trans (feq (by decide : ¬ ((1 : Int32) = (0 : Int32)))).1) k) ?_
    refine own_go (B := T51.setTop (mkF m 129 #[.val (.int p1), .val (.int (0 : Int32)), .val (.ref b35), .val (.ref r39), .val (.ref r39), .val (.int (1 : Int32)), .val (.int (1 : Int32)), .val (.int (1 : Int32)), .val (.int (1 : Int32)), .val (.int (1 : Int32))] [(.int (1 : Int32))])) (fun t k => XS.iconst X51.here hx rfl (hb hby at_128) k) ?_
    refine own_go (B := T51.setTop (mkF m 133 #[.val (.int p1), .val (.int (0 : Int32)), .val (.ref b35), .val (.ref r39), .val (.ref r39), .val (.int (1 : Int32)), .val (.int (1 : Int32)), .val (.int (1 : Int32)), .val (.int (1 : Int32)), .val (.int (1 : Int32))] [(.int (1 : Int32))])) (fun t k => XS.goto X51.here hx rfl (pc0 := 129) (pc' := 133) rfl (hb hby at_129) (by decide) (by decide) k) ?_
    obtain ⟨fs, hr, hrun, hended, hW, hsame⟩ := X51.leave (v := some (.int (1 : Int32))) (fun h => by rw [Bd.returns] at h; cases h)
    refine ⟨_, _, retN X51 hx (t := .boolean) Bd.returns (by simp) (hb hby at_133) hr, hK _ _ ⟨hrun, hended, _, _, rfl, ?_, ⟨_, rfl⟩, hW, hsame.mono (by decide) (by decide)⟩⟩
    show own_Q_law Z p1 w_EMPTY h0 n0 _ T51.heap _
    rw [eh51]
    exact ⟨rfl, N51⟩
  · refine own_go (B := s₁.setTop (mkF m 6 #[.val (.int p1), .unset, .unset, .unset, .unset, .unset, .unset, .unset, .unset, .unset] [])) (fun t k => XS.ifNo X0.here hx rfl (hb hby at_3) rfl ((if0 _ _).trans (feq hc3_34).1) k) ?_
    refine own_go (B := s₁.setTop (mkF m 7 #[.val (.int p1), .unset, .unset, .unset, .unset, .unset, .unset, .unset, .unset, .unset] [(.int (1 : Int32))])) (fun t k => XS.iconst X0.here hx rfl (hb hby at_6) k) ?_
    refine own_go (B := s₁.setTop (mkF m 11 #[.val (.int p1), .unset, .unset, .unset, .unset, .unset, .unset, .unset, .unset, .unset] [(.int (1 : Int32))])) (fun t k => XS.goto X0.here hx rfl (pc0 := 7) (pc' := 11) rfl (hb hby at_7) (by decide) (by decide) k) ?_
    refine own_go (B := s₁.setTop (mkF m 12 #[.val (.int p1), .val (.int (1 : Int32)), .unset, .unset, .unset, .unset, .unset, .unset, .unset, .unset] [])) (fun t k => XS.istoreN X0.here hx rfl (hb hby at_11) rfl (l' := #[.val (.int p1), .val (.int (1 : Int32)), .unset, .unset, .unset, .unset, .unset, .unset, .unset, .unset]) rfl k) ?_
    obtain ⟨T58, h58, X58, e58, E58, A58, D58, -, st58⟩ := newO X0 hx hZ hown (hw _ (List.mem_of_getElem? (i := 0) rfl)) (hw _ (List.mem_of_getElem? (i := 1) rfl)) (hw _ (List.mem_of_getElem? (i := 2) rfl)) e0 (g := (mkF m 12 #[.val (.int p1), .val (.int (1 : Int32)), .unset, .unset, .unset, .unset, .unset, .unset, .unset, .unset] [])) rfl (hb hby at_12) (by decide) (by decide)
    obtain ⟨b58, g58⟩ : ∃ z, z = h0.size := ⟨_, rfl⟩
    rw [← g58] at A58 D58 st58
    have g_b58 : n0 ≤ b58 := Nat.le_trans (own_n0 O0) (Nat.le_of_eq g58.symm)
    have O58 := O0.ext E58
    have F58_13 : Fld Z h58 b58 "com/example/omrakning/omrakning/IssueTerms" "discountThreshold" "Ljava/math/BigDecimal;" .null := D58 (Or.inr (hw _ (List.mem_of_getElem? (i := 13) rfl))) (ty := (.object "java/math/BigDecimal")) (by decide)
    have F58_15 : Fld Z h58 b58 "com/example/omrakning/omrakning/IssueTerms" "parityProtection" "Z" (.int (0 : Int32)) := D58 (Or.inr (hw _ (List.mem_of_getElem? (i := 15) rfl))) (ty := .boolean) (by decide)
    refine own_go (B := T58.setTop (mkF m 15 #[.val (.int p1), .val (.int (1 : Int32)), .unset, .unset, .unset, .unset, .unset, .unset, .unset, .unset] [(.ref b58)])) (fun t k => st58 _ k) ?_
    refine own_go (B := T58.setTop (mkF m 16 #[.val (.int p1), .val (.int (1 : Int32)), .unset, .unset, .unset, .unset, .unset, .unset, .unset, .unset] [(.ref b58), (.ref b58)])) (fun t k => XS.dup X58.here hx rfl (hb hby at_15) rfl rfl k) ?_
    obtain ⟨_, _, ⟨T59, L59, k59, n59⟩, -, X59, ⟨Lc59, hQ59, l59, y59, z59⟩, st59⟩ := X58.specialBack hx (y := (⟨"com/example/omrakning/omrakning/IssueTerms", "<init>", "()V"⟩ : MethodName)) rfl hown (mvT hZ (hw _ (List.mem_of_getElem? (i := 3) rfl))) (mvT hZ (hw _ (List.mem_of_getElem? (i := 4) rfl))) (mvT hZ (hw _ (List.mem_of_getElem? (i := 5) rfl))) (by decide) (backOf (W := 1) (own_rm_init l Z a0 hw [] b58  h58 n0 O58 A58 g_b58 F58_13 F58_15) hZ (hw _ (List.mem_of_getElem? (i := 5) rfl)) (hw _ (List.mem_of_getElem? (i := 2) rfl)) (by decide) (by decide)) (g := (mkF m 16 #[.val (.int p1), .val (.int (1 : Int32)), .unset, .unset, .unset, .unset, .unset, .unset, .unset, .unset] [(.ref b58), (.ref b58)])) rfl (by rw [hml]; rfl) (Steps.refl _) (a := b58) (argsL := []) (rest := [(.ref b58)]) (lenOf own_pd_2 rfl) rfl (by show 2 * 0 + _ ≤ _; exact Nat.le_of_eq rfl) (hb hby at_16) (fun _ _ => ⟨rfl, e58, (by decide : 1 + 0 ≤ _), (by decide : 2 + 0 ≤ _)⟩)
    dsimp only [Pt.U, Pt.locs, Pt.cells, Pt.slots] at X59 l59 y59 z59 st59 hQ59
    subst l59 y59 z59
    obtain ⟨rfl, N59q, Kc59, En59, Fn59_0, Fn59_1⟩ := hQ59
    have O59 := O58.keep Kc59 (allS g_b58 all0)
    have N59 := Fr.app N0 N59q
    refine own_go (B := T59.setTop (mkF m 19 #[.val (.int p1), .val (.int (1 : Int32)), .unset, .unset, .unset, .unset, .unset, .unset, .unset, .unset] [(.ref b58)])) (fun t k => st59.trans k) ?_
    refine own_go (B := T59.setTop (mkF m 20 #[.val (.int p1), .val (.int (1 : Int32)), .val (.ref b58), .unset, .unset, .unset, .unset, .unset, .unset, .unset] [])) (fun t k => XS.astoreN X59.here hx rfl (hb hby at_19) rfl rfl (l' := #[.val (.int p1), .val (.int (1 : Int32)), .val (.ref b58), .unset, .unset, .unset, .unset, .unset, .unset, .unset]) rfl k) ?_
    refine own_go (B := T59.setTop (mkF m 21 #[.val (.int p1), .val (.int (1 : Int32)), .val (.ref b58), .unset, .unset, .unset, .unset, .unset, .unset, .unset] [(.ref b58)])) (fun t k => XS.aloadN X59.here hx rfl (hb hby at_20) rfl rfl k) ?_
    have f61 := (A58.keep Kc59)
    have lt_b58_60 := f61.lt
    obtain ⟨cq62, kq62, q62a, q62b, q62c⟩ := isOf hZ (rfl : T59.heap = T59.heap) f61
    obtain ⟨_, _, ⟨T62, L62, k62, n62⟩, -, X62, ⟨Lc62, hQ62, l62, y62, z62⟩, st62⟩ := X59.virtualBack hx (y := (⟨"com/example/omrakning/omrakning/IssueTerms", "withParityProtection", "()Lcom/example/omrakning/omrakning/IssueTerms;"⟩ : MethodName)) (z := (⟨"com/example/omrakning/omrakning/IssueTerms", "withParityProtection", "()Lcom/example/omrakning/omrakning/IssueTerms;"⟩ : MethodName)) hown (mvT hZ (hw _ (List.mem_of_getElem? (i := 16) rfl))) (mvT hZ (hw _ (List.mem_of_getElem? (i := 17) rfl))) (notFace_of_selects (args := #[]) (mvT hZ (hw _ (List.mem_of_getElem? (i := 19) rfl)))) (mvT hZ (hw _ (List.mem_of_getElem? (i := 19) rfl))) (mvT hZ (hw _ (List.mem_of_getElem? (i := 18) rfl))) (by decide) (backOf (W := 0) (own_rm_with l Z a0 hw [] b58 T59.heap n0 O59 Fn59_0) hZ (hw _ (List.mem_of_getElem? (i := 20) rfl)) (hw _ (List.mem_of_getElem? (i := 2) rfl)) (by decide) (by decide)) q62a q62c (g := (mkF m 21 #[.val (.int p1), .val (.int (1 : Int32)), .val (.ref b58), .unset, .unset, .unset, .unset, .unset, .unset, .unset] [(.ref b58)])) rfl (by rw [hml]; rfl) (Steps.refl _) (argsL := []) (rest := []) (lenOf own_pd_3 rfl) rfl (by show 2 * 0 + _ ≤ _; exact Nat.le_of_eq rfl) (hb hby at_21) (fun _ _ => ⟨rfl, (rfl : T59.heap = T59.heap), (by decide : 1 + 1 ≤ _), (by decide : 2 + 2 ≤ _)⟩)
    dsimp only [Pt.U, Pt.locs, Pt.cells, Pt.slots] at X62 l62 y62 z62 st62 hQ62
    subst l62 y62 z62
    obtain ⟨r62, rfl, N62q, Kc62, ge62, Er62, Fa62, Fb62⟩ := hQ62
    have E62 := Kc62
    have O62 := O59.ext E62
    have N62 := Fr.app N59 N62q
    refine own_go (B := T62.setTop (mkF m 24 #[.val (.int p1), .val (.int (1 : Int32)), .val (.ref b58), .unset, .unset, .unset, .unset, .unset, .unset, .unset] [(.ref r62)])) (fun t k => st62.trans k) ?_
    have g_r62 : n0 ≤ r62 := Nat.le_trans (own_n0 O59) ge62
    refine own_go (B := T62.setTop (mkF m 25 #[.val (.int p1), .val (.int (1 : Int32)), .val (.ref b58), .val (.ref r62), .unset, .unset, .unset, .unset, .unset, .unset] [])) (fun t k => XS.astoreN X62.here hx rfl (hb hby at_24) rfl rfl (l' := #[.val (.int p1), .val (.int (1 : Int32)), .val (.ref b58), .val (.ref r62), .unset, .unset, .unset, .unset, .unset, .unset]) rfl k) ?_
    refine own_go (B := T62.setTop (mkF m 26 #[.val (.int p1), .val (.int (1 : Int32)), .val (.ref b58), .val (.ref r62), .unset, .unset, .unset, .unset, .unset, .unset] [(.int (1 : Int32))])) (fun t k => XS.iloadN X62.here hx rfl (hb hby at_25) rfl k) ?_
    refine own_go (B := T62.setTop (mkF m 29 #[.val (.int p1), .val (.int (1 : Int32)), .val (.ref b58), .val (.ref r62), .unset, .unset, .unset, .unset, .unset, .unset] [])) (fun t k => XS.ifNo X62.here hx rfl (hb hby at_26) rfl ((if0 _ _).trans (feq (by decide : ¬ ((1 : Int32) = (0 : Int32)))).1) k) ?_
    refine own_go (B := T62.setTop (mkF m 30 #[.val (.int p1), .val (.int (1 : Int32)), .val (.ref b58), .val (.ref r62), .unset, .unset, .unset, .unset, .unset, .unset] [(.ref r62)])) (fun t k => XS.aloadN X62.here hx rfl (hb hby at_29) rfl rfl k) ?_
    have f65 := (f61.ext E62)
    have lt_b58_64 := f65.lt
    have lt_r62_64 := Er62.lt
    obtain ⟨cq66, kq66, q66a, q66b, q66c⟩ := isOf hZ (rfl : T62.heap = T62.heap) Er62
    obtain ⟨_, _, ⟨T66, L66, k66, n66⟩, -, X66, ⟨Lc66, hQ66, l66, y66, z66⟩, st66⟩ := X62.virtualBack hx (y := (⟨"com/example/omrakning/omrakning/IssueTerms", "withParityProtection", "()Lcom/example/omrakning/omrakning/IssueTerms;"⟩ : MethodName)) (z := (⟨"com/example/omrakning/omrakning/IssueTerms", "withParityProtection", "()Lcom/example/omrakning/omrakning/IssueTerms;"⟩ : MethodName)) hown (mvT hZ (hw _ (List.mem_of_getElem? (i := 16) rfl))) (mvT hZ (hw _ (List.mem_of_getElem? (i := 17) rfl))) (notFace_of_selects (args := #[]) (mvT hZ (hw _ (List.mem_of_getElem? (i := 19) rfl)))) (mvT hZ (hw _ (List.mem_of_getElem? (i := 19) rfl))) (mvT hZ (hw _ (List.mem_of_getElem? (i := 18) rfl))) (by decide) (backOf (W := 0) (own_rm_with l Z a0 hw [] r62 T62.heap n0 O62 Fa62) hZ (hw _ (List.mem_of_getElem? (i := 20) rfl)) (hw _ (List.mem_of_getElem? (i := 2) rfl)) (by decide) (by decide)) q66a q66c (g := (mkF m 30 #[.val (.int p1), .val (.int (1 : Int32)), .val (.ref b58), .val (.ref r62), .unset, .unset, .unset, .unset, .unset, .unset] [(.ref r62)])) rfl (by rw [hml]; rfl) (Steps.refl _) (argsL := []) (rest := []) (lenOf own_pd_3 rfl) rfl (by show 2 * 0 + _ ≤ _; exact Nat.le_of_eq rfl) (hb hby at_30) (fun _ _ => ⟨rfl, (rfl : T62.heap = T62.heap), (by decide : 2 + 1 ≤ _), (by decide : 4 + 2 ≤ _)⟩)
    dsimp only [Pt.U, Pt.locs, Pt.cells, Pt.slots] at X66 l66 y66 z66 st66 hQ66
    subst l66 y66 z66
    obtain ⟨r66, rfl, N66q, Kc66, ge66, Er66, Fa66, Fb66⟩ := hQ66
    have E66 := Kc66
    have O66 := O62.ext E66
    have N66 := Fr.app N62 N66q
    refine own_go (B := T66.setTop (mkF m 33 #[.val (.int p1), .val (.int (1 : Int32)), .val (.ref b58), .val (.ref r62), .unset, .unset, .unset, .unset, .unset, .unset] [(.ref r66)])) (fun t k => st66.trans k) ?_
    have g_r66 : n0 ≤ r66 := Nat.le_trans (own_n0 O62) ge66
    refine own_go (B := T66.setTop (mkF m 37 #[.val (.int p1), .val (.int (1 : Int32)), .val (.ref b58), .val (.ref r62), .unset, .unset, .unset, .unset, .unset, .unset] [(.ref r66)])) (fun t k => XS.goto X66.here hx rfl (pc0 := 33) (pc' := 37) rfl (hb hby at_33) (by decide) (by decide) k) ?_
    refine own_go (B := T66.setTop (mkF m 39 #[.val (.int p1), .val (.int (1 : Int32)), .val (.ref b58), .val (.ref r62), .val (.ref r66), .unset, .unset, .unset, .unset, .unset] [])) (fun t k => XS.astore X66.here hx rfl (hb hby at_37) rfl rfl (l' := #[.val (.int p1), .val (.int (1 : Int32)), .val (.ref b58), .val (.ref r62), .val (.ref r66), .unset, .unset, .unset, .unset, .unset]) rfl k) ?_
    refine own_go (B := T66.setTop (mkF m 40 #[.val (.int p1), .val (.int (1 : Int32)), .val (.ref b58), .val (.ref r62), .val (.ref r66), .unset, .unset, .unset, .unset, .unset] [(.ref b58)])) (fun t k => XS.aloadN X66.here hx rfl (hb hby at_39) rfl rfl k) ?_
    have f67 := ((Fn59_1.ext E62).ext E66)
    have f69 := (f65.ext E66)
    obtain ⟨cq68, kq68, q68a, q68b, q68c⟩ := isOf hZ (rfl : T66.heap = T66.heap) f69
    obtain ⟨_, _, ⟨T68, L68, k68, n68⟩, -, X68, ⟨Lc68, hQ68, l68, y68, z68⟩, st68⟩ := X66.virtualBack hx (y := (⟨"com/example/omrakning/omrakning/IssueTerms", "parityProtection", "()Z"⟩ : MethodName)) (z := (⟨"com/example/omrakning/omrakning/IssueTerms", "parityProtection", "()Z"⟩ : MethodName)) hown (mvT hZ (hw _ (List.mem_of_getElem? (i := 22) rfl))) (mvT hZ (hw _ (List.mem_of_getElem? (i := 23) rfl))) (notFace_of_selects (args := #[]) (mvT hZ (hw _ (List.mem_of_getElem? (i := 25) rfl)))) (mvT hZ (hw _ (List.mem_of_getElem? (i := 25) rfl))) (mvT hZ (hw _ (List.mem_of_getElem? (i := 24) rfl))) (by decide) (backOf (W := 0) (own_rm_pp l Z a0 hw [] b58 (0 : Int32) T66.heap n0 O66 f67 rfl) hZ (hw _ (List.mem_of_getElem? (i := 26) rfl)) (hw _ (List.mem_of_getElem? (i := 2) rfl)) (by decide) (by decide)) q68a q68c (g := (mkF m 40 #[.val (.int p1), .val (.int (1 : Int32)), .val (.ref b58), .val (.ref r62), .val (.ref r66), .unset, .unset, .unset, .unset, .unset] [(.ref b58)])) rfl (by rw [hml]; rfl) (Steps.refl _) (argsL := []) (rest := []) (lenOf own_pd_4 rfl) rfl (by show 2 * 0 + _ ≤ _; exact Nat.le_of_eq rfl) (hb hby at_40) (fun _ _ => ⟨rfl, (rfl : T66.heap = T66.heap), (by decide : 3 + 0 ≤ _), (by decide : 6 + 0 ≤ _)⟩)
    dsimp only [Pt.U, Pt.locs, Pt.cells, Pt.slots] at X68 l68 y68 z68 st68 hQ68
    subst l68 y68 z68
    obtain ⟨rfl, N68q, eh68⟩ := hQ68
    have N68 := Fr.app N66 N68q
    refine own_go (B := T68.setTop (mkF m 43 #[.val (.int p1), .val (.int (1 : Int32)), .val (.ref b58), .val (.ref r62), .val (.ref r66), .unset, .unset, .unset, .unset, .unset] [(.int (0 : Int32))])) (fun t k => st68.trans k) ?_
    refine own_go (B := T68.setTop (mkF m 46 #[.val (.int p1), .val (.int (1 : Int32)), .val (.ref b58), .val (.ref r62), .val (.ref r66), .unset, .unset, .unset, .unset, .unset] [])) (fun t k => XS.ifNo X68.here hx rfl (hb hby at_43) rfl ((if0 _ _).trans (teq (by decide : (0 : Int32) = (0 : Int32))).2) k) ?_
    refine own_go (B := T68.setTop (mkF m 47 #[.val (.int p1), .val (.int (1 : Int32)), .val (.ref b58), .val (.ref r62), .val (.ref r66), .unset, .unset, .unset, .unset, .unset] [(.int (1 : Int32))])) (fun t k => XS.iconst X68.here hx rfl (hb hby at_46) k) ?_
    refine own_go (B := T68.setTop (mkF m 51 #[.val (.int p1), .val (.int (1 : Int32)), .val (.ref b58), .val (.ref r62), .val (.ref r66), .unset, .unset, .unset, .unset, .unset] [(.int (1 : Int32))])) (fun t k => XS.goto X68.here hx rfl (pc0 := 47) (pc' := 51) rfl (hb hby at_47) (by decide) (by decide) k) ?_
    refine own_go (B := T68.setTop (mkF m 53 #[.val (.int p1), .val (.int (1 : Int32)), .val (.ref b58), .val (.ref r62), .val (.ref r66), .val (.int (1 : Int32)), .unset, .unset, .unset, .unset] [])) (fun t k => XS.istore X68.here hx rfl (hb hby at_51) rfl (l' := #[.val (.int p1), .val (.int (1 : Int32)), .val (.ref b58), .val (.ref r62), .val (.ref r66), .val (.int (1 : Int32)), .unset, .unset, .unset, .unset]) rfl k) ?_
    refine own_go (B := T68.setTop (mkF m 54 #[.val (.int p1), .val (.int (1 : Int32)), .val (.ref b58), .val (.ref r62), .val (.ref r66), .val (.int (1 : Int32)), .unset, .unset, .unset, .unset] [(.ref r62)])) (fun t k => XS.aloadN X68.here hx rfl (hb hby at_53) rfl rfl k) ?_
    have f71 := (Fb62.ext E66)
    have f73 := (Er62.ext E66)
    obtain ⟨cq72, kq72, q72a, q72b, q72c⟩ := isOf hZ eh68 f73
    obtain ⟨_, _, ⟨T72, L72, k72, n72⟩, -, X72, ⟨Lc72, hQ72, l72, y72, z72⟩, st72⟩ := X68.virtualBack hx (y := (⟨"com/example/omrakning/omrakning/IssueTerms", "parityProtection", "()Z"⟩ : MethodName)) (z := (⟨"com/example/omrakning/omrakning/IssueTerms", "parityProtection", "()Z"⟩ : MethodName)) hown (mvT hZ (hw _ (List.mem_of_getElem? (i := 22) rfl))) (mvT hZ (hw _ (List.mem_of_getElem? (i := 23) rfl))) (notFace_of_selects (args := #[]) (mvT hZ (hw _ (List.mem_of_getElem? (i := 25) rfl)))) (mvT hZ (hw _ (List.mem_of_getElem? (i := 25) rfl))) (mvT hZ (hw _ (List.mem_of_getElem? (i := 24) rfl))) (by decide) (backOf (W := 0) (own_rm_pp l Z a0 hw [] r62 (1 : Int32) T66.heap n0 O66 f71 rfl) hZ (hw _ (List.mem_of_getElem? (i := 26) rfl)) (hw _ (List.mem_of_getElem? (i := 2) rfl)) (by decide) (by decide)) q72a q72c (g := (mkF m 54 #[.val (.int p1), .val (.int (1 : Int32)), .val (.ref b58), .val (.ref r62), .val (.ref r66), .val (.int (1 : Int32)), .unset, .unset, .unset, .unset] [(.ref r62)])) rfl (by rw [hml]; rfl) (Steps.refl _) (argsL := []) (rest := []) (lenOf own_pd_4 rfl) rfl (by show 2 * 0 + _ ≤ _; exact Nat.le_of_eq rfl) (hb hby at_54) (fun _ _ => ⟨rfl, eh68, (by decide : 3 + 0 ≤ _), (by decide : 6 + 0 ≤ _)⟩)
    dsimp only [Pt.U, Pt.locs, Pt.cells, Pt.slots] at X72 l72 y72 z72 st72 hQ72
    subst l72 y72 z72
    obtain ⟨rfl, N72q, eh72⟩ := hQ72
    have N72 := Fr.app N68 N72q
    refine own_go (B := T72.setTop (mkF m 57 #[.val (.int p1), .val (.int (1 : Int32)), .val (.ref b58), .val (.ref r62), .val (.ref r66), .val (.int (1 : Int32)), .unset, .unset, .unset, .unset] [(.int (1 : Int32))])) (fun t k => st72.trans k) ?_
    refine own_go (B := T72.setTop (mkF m 59 #[.val (.int p1), .val (.int (1 : Int32)), .val (.ref b58), .val (.ref r62), .val (.ref r66), .val (.int (1 : Int32)), .val (.int (1 : Int32)), .unset, .unset, .unset] [])) (fun t k => XS.istore X72.here hx rfl (hb hby at_57) rfl (l' := #[.val (.int p1), .val (.int (1 : Int32)), .val (.ref b58), .val (.ref r62), .val (.ref r66), .val (.int (1 : Int32)), .val (.int (1 : Int32)), .unset, .unset, .unset]) rfl k) ?_
    refine own_go (B := T72.setTop (mkF m 61 #[.val (.int p1), .val (.int (1 : Int32)), .val (.ref b58), .val (.ref r62), .val (.ref r66), .val (.int (1 : Int32)), .val (.int (1 : Int32)), .unset, .unset, .unset] [(.ref r66)])) (fun t k => XS.aload X72.here hx rfl (hb hby at_59) rfl rfl k) ?_
    obtain ⟨cq74, kq74, q74a, q74b, q74c⟩ := isOf hZ eh72 Er66
    obtain ⟨_, _, ⟨T74, L74, k74, n74⟩, -, X74, ⟨Lc74, hQ74, l74, y74, z74⟩, st74⟩ := X72.virtualBack hx (y := (⟨"com/example/omrakning/omrakning/IssueTerms", "parityProtection", "()Z"⟩ : MethodName)) (z := (⟨"com/example/omrakning/omrakning/IssueTerms", "parityProtection", "()Z"⟩ : MethodName)) hown (mvT hZ (hw _ (List.mem_of_getElem? (i := 22) rfl))) (mvT hZ (hw _ (List.mem_of_getElem? (i := 23) rfl))) (notFace_of_selects (args := #[]) (mvT hZ (hw _ (List.mem_of_getElem? (i := 25) rfl)))) (mvT hZ (hw _ (List.mem_of_getElem? (i := 25) rfl))) (mvT hZ (hw _ (List.mem_of_getElem? (i := 24) rfl))) (by decide) (backOf (W := 0) (own_rm_pp l Z a0 hw [] r66 (1 : Int32) T66.heap n0 O66 Fb66 rfl) hZ (hw _ (List.mem_of_getElem? (i := 26) rfl)) (hw _ (List.mem_of_getElem? (i := 2) rfl)) (by decide) (by decide)) q74a q74c (g := (mkF m 61 #[.val (.int p1), .val (.int (1 : Int32)), .val (.ref b58), .val (.ref r62), .val (.ref r66), .val (.int (1 : Int32)), .val (.int (1 : Int32)), .unset, .unset, .unset] [(.ref r66)])) rfl (by rw [hml]; rfl) (Steps.refl _) (argsL := []) (rest := []) (lenOf own_pd_4 rfl) rfl (by show 2 * 0 + _ ≤ _; exact Nat.le_of_eq rfl) (hb hby at_61) (fun _ _ => ⟨rfl, eh72, (by decide : 3 + 0 ≤ _), (by decide : 6 + 0 ≤ _)⟩)
    dsimp only [Pt.U, Pt.locs, Pt.cells, Pt.slots] at X74 l74 y74 z74 st74 hQ74
    subst l74 y74 z74
    obtain ⟨rfl, N74q, eh74⟩ := hQ74
    have N74 := Fr.app N72 N74q
    refine own_go (B := T74.setTop (mkF m 64 #[.val (.int p1), .val (.int (1 : Int32)), .val (.ref b58), .val (.ref r62), .val (.ref r66), .val (.int (1 : Int32)), .val (.int (1 : Int32)), .unset, .unset, .unset] [(.int (1 : Int32))])) (fun t k => st74.trans k) ?_
    refine own_go (B := T74.setTop (mkF m 66 #[.val (.int p1), .val (.int (1 : Int32)), .val (.ref b58), .val (.ref r62), .val (.ref r66), .val (.int (1 : Int32)), .val (.int (1 : Int32)), .val (.int (1 : Int32)), .unset, .unset] [])) (fun t k => XS.istore X74.here hx rfl (hb hby at_64) rfl (l' := #[.val (.int p1), .val (.int (1 : Int32)), .val (.ref b58), .val (.ref r62), .val (.ref r66), .val (.int (1 : Int32)), .val (.int (1 : Int32)), .val (.int (1 : Int32)), .unset, .unset]) rfl k) ?_
    refine own_go (B := T74.setTop (mkF m 67 #[.val (.int p1), .val (.int (1 : Int32)), .val (.ref b58), .val (.ref r62), .val (.ref r66), .val (.int (1 : Int32)), .val (.int (1 : Int32)), .val (.int (1 : Int32)), .unset, .unset] [(.ref r62)])) (fun t k => XS.aloadN X74.here hx rfl (hb hby at_66) rfl rfl k) ?_
    have f75 := (Fa62.ext E66)
    obtain ⟨cq76, kq76, q76a, q76b, q76c⟩ := isOf hZ eh74 f73
    obtain ⟨_, _, ⟨T76, L76, k76, n76⟩, -, X76, ⟨Lc76, hQ76, l76, y76, z76⟩, st76⟩ := X74.virtualBack hx (y := (⟨"com/example/omrakning/omrakning/IssueTerms", "discountThreshold", "()Ljava/util/Optional;"⟩ : MethodName)) (z := (⟨"com/example/omrakning/omrakning/IssueTerms", "discountThreshold", "()Ljava/util/Optional;"⟩ : MethodName)) hown (mvT hZ (hw _ (List.mem_of_getElem? (i := 27) rfl))) (mvT hZ (hw _ (List.mem_of_getElem? (i := 28) rfl))) (notFace_of_selects (args := #[]) (mvT hZ (hw _ (List.mem_of_getElem? (i := 30) rfl)))) (mvT hZ (hw _ (List.mem_of_getElem? (i := 30) rfl))) (mvT hZ (hw _ (List.mem_of_getElem? (i := 29) rfl))) (by decide) (backOf (W := 0) (own_rm_dt l Z a0 hw [] r62 w_EMPTY T66.heap n0 O66 S_EMPTY f75) hZ (hw _ (List.mem_of_getElem? (i := 31) rfl)) (hw _ (List.mem_of_getElem? (i := 2) rfl)) (by decide) (by decide)) q76a q76c (g := (mkF m 67 #[.val (.int p1), .val (.int (1 : Int32)), .val (.ref b58), .val (.ref r62), .val (.ref r66), .val (.int (1 : Int32)), .val (.int (1 : Int32)), .val (.int (1 : Int32)), .unset, .unset] [(.ref r62)])) rfl (by rw [hml]; rfl) (Steps.refl _) (argsL := []) (rest := []) (lenOf own_pd_5 rfl) rfl (by show 2 * 0 + _ ≤ _; exact Nat.le_of_eq rfl) (hb hby at_67) (fun _ _ => ⟨rfl, eh74, (by decide : 3 + 0 ≤ _), (by decide : 6 + 0 ≤ _)⟩)
    dsimp only [Pt.U, Pt.locs, Pt.cells, Pt.slots] at X76 l76 y76 z76 st76 hQ76
    subst l76 y76 z76
    obtain ⟨rfl, N76q, eh76⟩ := hQ76
    have N76 := Fr.app N74 N76q
    refine own_go (B := T76.setTop (mkF m 70 #[.val (.int p1), .val (.int (1 : Int32)), .val (.ref b58), .val (.ref r62), .val (.ref r66), .val (.int (1 : Int32)), .val (.int (1 : Int32)), .val (.int (1 : Int32)), .unset, .unset] [(.ref w_EMPTY)])) (fun t k => st76.trans k) ?_
    refine own_go (B := T76.setTop (mkF m 71 #[.val (.int p1), .val (.int (1 : Int32)), .val (.ref b58), .val (.ref r62), .val (.ref r66), .val (.int (1 : Int32)), .val (.int (1 : Int32)), .val (.int (1 : Int32)), .unset, .unset] [(.ref b58), (.ref w_EMPTY)])) (fun t k => XS.aloadN X76.here hx rfl (hb hby at_70) rfl rfl k) ?_
    have f77 := ((Fn59_0.ext E62).ext E66)
    obtain ⟨cq78, kq78, q78a, q78b, q78c⟩ := isOf hZ eh76 f69
    obtain ⟨_, _, ⟨T78, L78, k78, n78⟩, -, X78, ⟨Lc78, hQ78, l78, y78, z78⟩, st78⟩ := X76.virtualBack hx (y := (⟨"com/example/omrakning/omrakning/IssueTerms", "discountThreshold", "()Ljava/util/Optional;"⟩ : MethodName)) (z := (⟨"com/example/omrakning/omrakning/IssueTerms", "discountThreshold", "()Ljava/util/Optional;"⟩ : MethodName)) hown (mvT hZ (hw _ (List.mem_of_getElem? (i := 27) rfl))) (mvT hZ (hw _ (List.mem_of_getElem? (i := 28) rfl))) (notFace_of_selects (args := #[]) (mvT hZ (hw _ (List.mem_of_getElem? (i := 30) rfl)))) (mvT hZ (hw _ (List.mem_of_getElem? (i := 30) rfl))) (mvT hZ (hw _ (List.mem_of_getElem? (i := 29) rfl))) (by decide) (backOf (W := 1) (own_rm_dt l Z a0 hw [] b58 w_EMPTY T66.heap n0 O66 S_EMPTY f77) hZ (hw _ (List.mem_of_getElem? (i := 31) rfl)) (hw _ (List.mem_of_getElem? (i := 2) rfl)) (by decide) (by decide)) q78a q78c (g := (mkF m 71 #[.val (.int p1), .val (.int (1 : Int32)), .val (.ref b58), .val (.ref r62), .val (.ref r66), .val (.int (1 : Int32)), .val (.int (1 : Int32)), .val (.int (1 : Int32)), .unset, .unset] [(.ref b58), (.ref w_EMPTY)])) rfl (by rw [hml]; rfl) (Steps.refl _) (argsL := []) (rest := [(.ref w_EMPTY)]) (lenOf own_pd_5 rfl) rfl (by show 2 * 0 + _ ≤ _; exact Nat.le_of_eq rfl) (hb hby at_71) (fun _ _ => ⟨rfl, eh76, (by decide : 3 + 0 ≤ _), (by decide : 6 + 0 ≤ _)⟩)
    dsimp only [Pt.U, Pt.locs, Pt.cells, Pt.slots] at X78 l78 y78 z78 st78 hQ78
    subst l78 y78 z78
    obtain ⟨rfl, N78q, eh78⟩ := hQ78
    have N78 := Fr.app N76 N78q
    refine own_go (B := T78.setTop (mkF m 74 #[.val (.int p1), .val (.int (1 : Int32)), .val (.ref b58), .val (.ref r62), .val (.ref r66), .val (.int (1 : Int32)), .val (.int (1 : Int32)), .val (.int (1 : Int32)), .unset, .unset] [(.ref w_EMPTY), (.ref w_EMPTY)])) (fun t k => st78.trans k) ?_
    refine own_go (B := T78.setTop (mkF m 77 #[.val (.int p1), .val (.int (1 : Int32)), .val (.ref b58), .val (.ref r62), .val (.ref r66), .val (.int (1 : Int32)), .val (.int (1 : Int32)), .val (.int (1 : Int32)), .unset, .unset] [])) (fun t k => Jvm.RoadKit.acmp (g := (mkF m 74 #[.val (.int p1), .val (.int (1 : Int32)), .val (.ref b58), .val (.ref r62), .val (.ref r66), .val (.int (1 : Int32)), .val (.int (1 : Int32)), .val (.int (1 : Int32)), .unset, .unset] [(.ref w_EMPTY), (.ref w_EMPTY)])) X78 hx rfl rfl rfl (pc0 := 74) (pc' := 77) (same := true) rfl (hb hby at_74) rfl (decide_eq_true rfl) (by decide) (by decide) k) ?_
    refine own_go (B := T78.setTop (mkF m 78 #[.val (.int p1), .val (.int (1 : Int32)), .val (.ref b58), .val (.ref r62), .val (.ref r66), .val (.int (1 : Int32)), .val (.int (1 : Int32)), .val (.int (1 : Int32)), .unset, .unset] [(.int (1 : Int32))])) (fun t k => XS.iconst X78.here hx rfl (hb hby at_77) k) ?_
    refine own_go (B := T78.setTop (mkF m 82 #[.val (.int p1), .val (.int (1 : Int32)), .val (.ref b58), .val (.ref r62), .val (.ref r66), .val (.int (1 : Int32)), .val (.int (1 : Int32)), .val (.int (1 : Int32)), .unset, .unset] [(.int (1 : Int32))])) (fun t k => XS.goto X78.here hx rfl (pc0 := 78) (pc' := 82) rfl (hb hby at_78) (by decide) (by decide) k) ?_
    refine own_go (B := T78.setTop (mkF m 84 #[.val (.int p1), .val (.int (1 : Int32)), .val (.ref b58), .val (.ref r62), .val (.ref r66), .val (.int (1 : Int32)), .val (.int (1 : Int32)), .val (.int (1 : Int32)), .val (.int (1 : Int32)), .unset] [])) (fun t k => XS.istore X78.here hx rfl (hb hby at_82) rfl (l' := #[.val (.int p1), .val (.int (1 : Int32)), .val (.ref b58), .val (.ref r62), .val (.ref r66), .val (.int (1 : Int32)), .val (.int (1 : Int32)), .val (.int (1 : Int32)), .val (.int (1 : Int32)), .unset]) rfl k) ?_
    refine own_go (B := T78.setTop (mkF m 86 #[.val (.int p1), .val (.int (1 : Int32)), .val (.ref b58), .val (.ref r62), .val (.ref r66), .val (.int (1 : Int32)), .val (.int (1 : Int32)), .val (.int (1 : Int32)), .val (.int (1 : Int32)), .unset] [(.ref r66)])) (fun t k => XS.aload X78.here hx rfl (hb hby at_84) rfl rfl k) ?_
    obtain ⟨cq79, kq79, q79a, q79b, q79c⟩ := isOf hZ eh78 Er66
    obtain ⟨_, _, ⟨T79, L79, k79, n79⟩, -, X79, ⟨Lc79, hQ79, l79, y79, z79⟩, st79⟩ := X78.virtualBack hx (y := (⟨"com/example/omrakning/omrakning/IssueTerms", "discountThreshold", "()Ljava/util/Optional;"⟩ : MethodName)) (z := (⟨"com/example/omrakning/omrakning/IssueTerms", "discountThreshold", "()Ljava/util/Optional;"⟩ : MethodName)) hown (mvT hZ (hw _ (List.mem_of_getElem? (i := 27) rfl))) (mvT hZ (hw _ (List.mem_of_getElem? (i := 28) rfl))) (notFace_of_selects (args := #[]) (mvT hZ (hw _ (List.mem_of_getElem? (i := 30) rfl)))) (mvT hZ (hw _ (List.mem_of_getElem? (i := 30) rfl))) (mvT hZ (hw _ (List.mem_of_getElem? (i := 29) rfl))) (by decide) (backOf (W := 0) (own_rm_dt l Z a0 hw [] r66 w_EMPTY T66.heap n0 O66 S_EMPTY Fa66) hZ (hw _ (List.mem_of_getElem? (i := 31) rfl)) (hw _ (List.mem_of_getElem? (i := 2) rfl)) (by decide) (by decide)) q79a q79c (g := (mkF m 86 #[.val (.int p1), .val (.int (1 : Int32)), .val (.ref b58), .val (.ref r62), .val (.ref r66), .val (.int (1 : Int32)), .val (.int (1 : Int32)), .val (.int (1 : Int32)), .val (.int (1 : Int32)), .unset] [(.ref r66)])) rfl (by rw [hml]; rfl) (Steps.refl _) (argsL := []) (rest := []) (lenOf own_pd_5 rfl) rfl (by show 2 * 0 + _ ≤ _; exact Nat.le_of_eq rfl) (hb hby at_86) (fun _ _ => ⟨rfl, eh78, (by decide : 3 + 0 ≤ _), (by decide : 6 + 0 ≤ _)⟩)
    dsimp only [Pt.U, Pt.locs, Pt.cells, Pt.slots] at X79 l79 y79 z79 st79 hQ79
    subst l79 y79 z79
    obtain ⟨rfl, N79q, eh79⟩ := hQ79
    have N79 := Fr.app N78 N79q
    refine own_go (B := T79.setTop (mkF m 89 #[.val (.int p1), .val (.int (1 : Int32)), .val (.ref b58), .val (.ref r62), .val (.ref r66), .val (.int (1 : Int32)), .val (.int (1 : Int32)), .val (.int (1 : Int32)), .val (.int (1 : Int32)), .unset] [(.ref w_EMPTY)])) (fun t k => st79.trans k) ?_
    refine own_go (B := T79.setTop (mkF m 90 #[.val (.int p1), .val (.int (1 : Int32)), .val (.ref b58), .val (.ref r62), .val (.ref r66), .val (.int (1 : Int32)), .val (.int (1 : Int32)), .val (.int (1 : Int32)), .val (.int (1 : Int32)), .unset] [(.ref b58), (.ref w_EMPTY)])) (fun t k => XS.aloadN X79.here hx rfl (hb hby at_89) rfl rfl k) ?_
    obtain ⟨cq80, kq80, q80a, q80b, q80c⟩ := isOf hZ eh79 f69
    obtain ⟨_, _, ⟨T80, L80, k80, n80⟩, -, X80, ⟨Lc80, hQ80, l80, y80, z80⟩, st80⟩ := X79.virtualBack hx (y := (⟨"com/example/omrakning/omrakning/IssueTerms", "discountThreshold", "()Ljava/util/Optional;"⟩ : MethodName)) (z := (⟨"com/example/omrakning/omrakning/IssueTerms", "discountThreshold", "()Ljava/util/Optional;"⟩ : MethodName)) hown (mvT hZ (hw _ (List.mem_of_getElem? (i := 27) rfl))) (mvT hZ (hw _ (List.mem_of_getElem? (i := 28) rfl))) (notFace_of_selects (args := #[]) (mvT hZ (hw _ (List.mem_of_getElem? (i := 30) rfl)))) (mvT hZ (hw _ (List.mem_of_getElem? (i := 30) rfl))) (mvT hZ (hw _ (List.mem_of_getElem? (i := 29) rfl))) (by decide) (backOf (W := 1) (own_rm_dt l Z a0 hw [] b58 w_EMPTY T66.heap n0 O66 S_EMPTY f77) hZ (hw _ (List.mem_of_getElem? (i := 31) rfl)) (hw _ (List.mem_of_getElem? (i := 2) rfl)) (by decide) (by decide)) q80a q80c (g := (mkF m 90 #[.val (.int p1), .val (.int (1 : Int32)), .val (.ref b58), .val (.ref r62), .val (.ref r66), .val (.int (1 : Int32)), .val (.int (1 : Int32)), .val (.int (1 : Int32)), .val (.int (1 : Int32)), .unset] [(.ref b58), (.ref w_EMPTY)])) rfl (by rw [hml]; rfl) (Steps.refl _) (argsL := []) (rest := [(.ref w_EMPTY)]) (lenOf own_pd_5 rfl) rfl (by show 2 * 0 + _ ≤ _; exact Nat.le_of_eq rfl) (hb hby at_90) (fun _ _ => ⟨rfl, eh79, (by decide : 3 + 0 ≤ _), (by decide : 6 + 0 ≤ _)⟩)
    dsimp only [Pt.U, Pt.locs, Pt.cells, Pt.slots] at X80 l80 y80 z80 st80 hQ80
    subst l80 y80 z80
    obtain ⟨rfl, N80q, eh80⟩ := hQ80
    have N80 := Fr.app N79 N80q
    refine own_go (B := T80.setTop (mkF m 93 #[.val (.int p1), .val (.int (1 : Int32)), .val (.ref b58), .val (.ref r62), .val (.ref r66), .val (.int (1 : Int32)), .val (.int (1 : Int32)), .val (.int (1 : Int32)), .val (.int (1 : Int32)), .unset] [(.ref w_EMPTY), (.ref w_EMPTY)])) (fun t k => st80.trans k) ?_
    refine own_go (B := T80.setTop (mkF m 96 #[.val (.int p1), .val (.int (1 : Int32)), .val (.ref b58), .val (.ref r62), .val (.ref r66), .val (.int (1 : Int32)), .val (.int (1 : Int32)), .val (.int (1 : Int32)), .val (.int (1 : Int32)), .unset] [])) (fun t k => Jvm.RoadKit.acmp (g := (mkF m 93 #[.val (.int p1), .val (.int (1 : Int32)), .val (.ref b58), .val (.ref r62), .val (.ref r66), .val (.int (1 : Int32)), .val (.int (1 : Int32)), .val (.int (1 : Int32)), .val (.int (1 : Int32)), .unset] [(.ref w_EMPTY), (.ref w_EMPTY)])) X80 hx rfl rfl rfl (pc0 := 93) (pc' := 96) (same := true) rfl (hb hby at_93) rfl (decide_eq_true rfl) (by decide) (by decide) k) ?_
    refine own_go (B := T80.setTop (mkF m 97 #[.val (.int p1), .val (.int (1 : Int32)), .val (.ref b58), .val (.ref r62), .val (.ref r66), .val (.int (1 : Int32)), .val (.int (1 : Int32)), .val (.int (1 : Int32)), .val (.int (1 : Int32)), .unset] [(.int (1 : Int32))])) (fun t k => XS.iconst X80.here hx rfl (hb hby at_96) k) ?_
    refine own_go (B := T80.setTop (mkF m 101 #[.val (.int p1), .val (.int (1 : Int32)), .val (.ref b58), .val (.ref r62), .val (.ref r66), .val (.int (1 : Int32)), .val (.int (1 : Int32)), .val (.int (1 : Int32)), .val (.int (1 : Int32)), .unset] [(.int (1 : Int32))])) (fun t k => XS.goto X80.here hx rfl (pc0 := 97) (pc' := 101) rfl (hb hby at_97) (by decide) (by decide) k) ?_
    refine own_go (B := T80.setTop (mkF m 103 #[.val (.int p1), .val (.int (1 : Int32)), .val (.ref b58), .val (.ref r62), .val (.ref r66), .val (.int (1 : Int32)), .val (.int (1 : Int32)), .val (.int (1 : Int32)), .val (.int (1 : Int32)), .val (.int (1 : Int32))] [])) (fun t k => XS.istore X80.here hx rfl (hb hby at_101) rfl (l' := #[.val (.int p1), .val (.int (1 : Int32)), .val (.ref b58), .val (.ref r62), .val (.ref r66), .val (.int (1 : Int32)), .val (.int (1 : Int32)), .val (.int (1 : Int32)), .val (.int (1 : Int32)), .val (.int (1 : Int32))]) rfl k) ?_
    refine own_go (B := T80.setTop (mkF m 105 #[.val (.int p1), .val (.int (1 : Int32)), .val (.ref b58), .val (.ref r62), .val (.ref r66), .val (.int (1 : Int32)), .val (.int (1 : Int32)), .val (.int (1 : Int32)), .val (.int (1 : Int32)), .val (.int (1 : Int32))] [(.int (1 : Int32))])) (fun t k => XS.iload X80.here hx rfl (hb hby at_103) rfl k) ?_
    refine own_go (B := T80.setTop (mkF m 108 #[.val (.int p1), .val (.int (1 : Int32)), .val (.ref b58), .val (.ref r62), .val (.ref r66), .val (.int (1 : Int32)), .val (.int (1 : Int32)), .val (.int (1 : Int32)), .val (.int (1 : Int32)), .val (.int (1 : Int32))] [])) (fun t k => XS.ifNo X80.here hx rfl (hb hby at_105) rfl ((if0 _ _).trans (feq (by decide : ¬ ((1 : Int32) = (0 : Int32)))).1) k) ?_
    refine own_go (B := T80.setTop (mkF m 110 #[.val (.int p1), .val (.int (1 : Int32)), .val (.ref b58), .val (.ref r62), .val (.ref r66), .val (.int (1 : Int32)), .val (.int (1 : Int32)), .val (.int (1 : Int32)), .val (.int (1 : Int32)), .val (.int (1 : Int32))] [(.int (1 : Int32))])) (fun t k => XS.iload X80.here hx rfl (hb hby at_108) rfl k) ?_
    refine own_go (B := T80.setTop (mkF m 113 #[.val (.int p1), .val (.int (1 : Int32)), .val (.ref b58), .val (.ref r62), .val (.ref r66), .val (.int (1 : Int32)), .val (.int (1 : Int32)), .val (.int (1 : Int32)), .val (.int (1 : Int32)), .val (.int (1 : Int32))] [])) (fun t k => XS.ifNo X80.here hx rfl (hb hby at_110) rfl ((if0 _ _).trans (feq (by decide : ¬ ((1 : Int32) = (0 : Int32)))).1) k) ?_
    refine own_go (B := T80.setTop (mkF m 115 #[.val (.int p1), .val (.int (1 : Int32)), .val (.ref b58), .val (.ref r62), .val (.ref r66), .val (.int (1 : Int32)), .val (.int (1 : Int32)), .val (.int (1 : Int32)), .val (.int (1 : Int32)), .val (.int (1 : Int32))] [(.int (1 : Int32))])) (fun t k => XS.iload X80.here hx rfl (hb hby at_113) rfl k) ?_
    refine own_go (B := T80.setTop (mkF m 118 #[.val (.int p1), .val (.int (1 : Int32)), .val (.ref b58), .val (.ref r62), .val (.ref r66), .val (.int (1 : Int32)), .val (.int (1 : Int32)), .val (.int (1 : Int32)), .val (.int (1 : Int32)), .val (.int (1 : Int32))] [])) (fun t k => XS.ifNo X80.here hx rfl (hb hby at_115) rfl ((if0 _ _).trans (feq (by decide : ¬ ((1 : Int32) = (0 : Int32)))).1) k) ?_
    refine own_go (B := T80.setTop (mkF m 120 #[.val (.int p1), .val (.int (1 : Int32)), .val (.ref b58), .val (.ref r62), .val (.ref r66), .val (.int (1 : Int32)), .val (.int (1 : Int32)), .val (.int (1 : Int32)), .val (.int (1 : Int32)), .val (.int (1 : Int32))] [(.int (1 : Int32))])) (fun t k => XS.iload X80.here hx rfl (hb hby at_118) rfl k) ?_
    refine own_go (B := T80.setTop (mkF m 123 #[.val (.int p1), .val (.int (1 : Int32)), .val (.ref b58), .val (.ref r62), .val (.ref r66), .val (.int (1 : Int32)), .val (.int (1 : Int32)), .val (.int (1 : Int32)), .val (.int (1 : Int32)), .val (.int (1 : Int32))] [])) (fun t k => XS.ifNo X80.here hx rfl (hb hby at_120) rfl ((if0 _ _).trans (feq (by decide : ¬ ((1 : Int32) = (0 : Int32)))).1) k) ?_
    refine own_go (B := T80.setTop (mkF m 125 #[.val (.int p1), .val (.int (1 : Int32)), .val (.ref b58), .val (.ref r62), .val (.ref r66), .val (.int (1 : Int32)), .val (.int (1 : Int32)), .val (.int (1 : Int32)), .val (.int (1 : Int32)), .val (.int (1 : Int32))] [(.int (1 : Int32))])) (fun t k => XS.iload X80.here hx rfl (hb hby at_123) rfl k) ?_
    refine own_go (B := T80.setTop (mkF m 128 #[.val (.int p1), .val (.int (1 : Int32)), .val (.ref b58), .val (.ref r62), .val (.ref r66), .val (.int (1 : Int32)), .val (.int (1 : Int32)), .val (.int (1 : Int32)), .val (.int (1 : Int32)), .val (.int (1 : Int32))] [])) (fun t k => XS.ifNo X80.here hx rfl (hb hby at_125) rfl ((if0 _ _).trans (feq (by decide : ¬ ((1 : Int32) = (0 : Int32)))).1) k) ?_
    refine own_go (B := T80.setTop (mkF m 129 #[.val (.int p1), .val (.int (1 : Int32)), .val (.ref b58), .val (.ref r62), .val (.ref r66), .val (.int (1 : Int32)), .val (.int (1 : Int32)), .val (.int (1 : Int32)), .val (.int (1 : Int32)), .val (.int (1 : Int32))] [(.int (1 : Int32))])) (fun t k => XS.iconst X80.here hx rfl (hb hby at_128) k) ?_
    refine own_go (B := T80.setTop (mkF m 133 #[.val (.int p1), .val (.int (1 : Int32)), .val (.ref b58), .val (.ref r62), .val (.ref r66), .val (.int (1 : Int32)), .val (.int (1 : Int32)), .val (.int (1 : Int32)), .val (.int (1 : Int32)), .val (.int (1 : Int32))] [(.int (1 : Int32))])) (fun t k => XS.goto X80.here hx rfl (pc0 := 129) (pc' := 133) rfl (hb hby at_129) (by decide) (by decide) k) ?_
    obtain ⟨fs, hr, hrun, hended, hW, hsame⟩ := X80.leave (v := some (.int (1 : Int32))) (fun h => by rw [Bd.returns] at h; cases h)
    refine ⟨_, _, retN X80 hx (t := .boolean) Bd.returns (by simp) (hb hby at_133) hr, hK _ _ ⟨hrun, hended, _, _, rfl, ?_, ⟨_, rfl⟩, hW, hsame.mono (by decide) (by decide)⟩⟩
    show own_Q_law Z p1 w_EMPTY h0 n0 _ T80.heap _
    rw [eh80]
    exact ⟨rfl, N80⟩
set_option maxRecDepth 65536 in
set_option maxHeartbeats 40000000 in
theorem comes_1 {Post : Tables → Env → Array Value → State → Outcome → State → Prop} (hpost : ∀ tb e args s v u, (limb_1_1.after args s (.returned v) u = true ∧ limb_1_2.after args s (.returned v) u = true ∧ True) → FrameEnd s (.returned v) u (Jvm.fieldLocs frame_1_writes args s ++ Jvm.arrayLocs frame_1_arrays args s ++ Jvm.staticLocs frame_1_statics s) 16 128 → Post tb e args s (.returned v) u) :
    ArmFor flags0 classFile x code maxLocals ret World_1 tables_1 room_1 Calls_1 rest_1 Pre_1 Post := by
  intro l hfl _ _ p e ha hc hk s m args below hf hA hF happ hP
  obtain ⟨hcalls, hrest, hpre⟩ := hP
  obtain ⟨-, -, -, hnamed, -, -, -, hat⟩ := (Spec.applies_iff hf).mp happ
  obtain ⟨hg, hn⟩ := and_e (Cond.before_iff.mp (show (Jvm.Cond.and given_1 narrow_1).before args s = true from hpre))
  obtain ⟨hga, hgb⟩ := and_e hg
  obtain ⟨v0, rfl⟩ : ∃ v0 : Value, args = #[v0] := by
    have hs : args.size = 1 := by simpa [Cond.value, given_1] using hga
    obtain ⟨L⟩ := args
    match L, hs with
    | [v0], _ => exact ⟨v0, rfl⟩
  have hw := fun d (hd : d ∈ tables_1) => atoms_spec (ws := Jvm.Cond.code x code maxLocals ret :: tables_1) hat d (List.mem_cons_of_mem _ hd)
  have hfit : Fit s := fun {y c} hc i hi => by
    obtain ⟨ha, rfl⟩ := Array.getElem?_eq_some_iff.mp hc
    have q := List.all_eq_true.mp ((Array.all_eq_true_iff_forall_mem.mp hF) _ (Array.getElem_mem ha)) i (List.mem_range.mpr hi)
    simpa [Array.getElem?_eq_getElem hi] using q
  obtain ⟨hsets, hown0⟩ := atoms_of _ (rest_1_c_eq ▸ (show rest_1_c.before _ s = true from hrest))
  have hr0 := Cond.before_iff.mp hown0
  obtain ⟨p1, ep1⟩ := is_v hgb
  obtain rfl : v0 = (.int p1) := Option.some.inj ep1
  have h2 := Cond.before_iff.mp (hsets _ (List.mem_of_getElem? (i := 2) rfl))
  obtain ⟨w_EMPTY, ev⟩ := exa_v h2
  have S_EMPTY := Sta.start ev (Or.inl (hsets _ (List.mem_of_getElem? (i := 1) rfl)))
  obtain ⟨n, o, h1, h2, h3, _, L, rfl, ⟨rfl, N⟩, hq⟩ := own_rm_law l s _ hw tables_1 p1 w_EMPTY s.heap s.heap.size (Old.start s) S_EMPTY p e ha hc hk s m _ below hf ((Spec.applies_iff_loose hf).mp happ).1 ⟨rfl, State.Warmed39.refl s, rfl⟩ trivial
  refine ⟨n, _, h1, h2, h3, hpost _ _ _ _ _ _ ⟨Cond.after_iff.mpr rfl, Cond.after_iff.mpr (eq_i res_at (Term.int_eval (1)) rfl), trivial⟩ ⟨hq.1, hq.2.1, (hq.2.2.sift fun y hy => Or.inr (N y hy)).mono (by decide) (by decide)⟩⟩
theorem main_1_1 : Claimed_1_1 := comes_1 fun _ _ _ _ _ _ h hF => ⟨h.1, hF⟩
theorem main_1_2 : Claimed_1_2 := comes_1 fun _ _ _ _ _ _ h hF => ⟨h.2.1, hF⟩
end Jvm.Pilot.@@N@@
namespace Jvm.Pilot.@@N@@
open Jvm Jvm.ClassFile Sem Op Lib Jvm.Free Jvm.Stand Jvm.Pilot.@@N@@.Jvm.D
/-! MADE BY PROGRAM (witnessworld.py) out of the Statement's table words and the real class files: 10 classes; the members and pool entries that the words name. The judged class is class 1, her method 1. -/
namespace start1
open Jvm.ClassFile
def u (s : String) : CpInfo := .utf8 (stringToUtf16 s)
/-- a pool by its gaps: so many unusable entries, then the entry; so many at the end -/
def gap : Nat → List CpInfo → List CpInfo
  | 0, r => r
  | n + 1, r => .unusable :: gap n r
def poolList (es : List (Nat × CpInfo)) (last : Nat) : List CpInfo := es.foldr (fun e r => gap e.1 (e.2 :: r)) (gap last [])
def pool (es : List (Nat × CpInfo)) (last : Nat) : Array CpInfo := ⟨poolList es last⟩
def fileOf (pool : Array CpInfo) (this : Nat) (attrs : Array Attribute := #[]) (ms : Array MethodInfo := #[]) (fl : Nat := 33) (sup : Nat := 0) (ifs : Array Nat := #[]) (fds : Array FieldInfo := #[]) : ClassFile where
  minorVersion := 0
  majorVersion := 65
  constantPool := pool
  accessFlags := fl
  thisClass := this
  superClass := sup
  interfaces := ifs
  fields := fds
  methods := ms
  attributes := attrs
def plain (name : String) (sup : Option ClassId) : Class where
  name := name
  kind := .ordinary
  loader := none
  accessFlags := 33
  super := sup
  interfaces := #[]
  cf := none
  fields := #[]
  methods := #[]
  instanceTypes := #[]
  staticTypes := #[]
  resolved := #[]
  callSites := []
  init := .initialized
  statics := none
  mirror := none

def pool0 : Array CpInfo := pool [(5, u "<init>"), (0, u "()V"), (1, .class_ 10), (1, u "java/lang/Object")] 113

def k0c0 : Code := { maxStack := 0, maxLocals := 1, code := object_method_1_code, exceptionTable := #[], attributes := #[] }
def k0m0 : Method := { name := "<init>", desc := "()V", sig := { parameters := [], returnType := none }, accessFlags := 1, code := some k0c0 }
/-- java/lang/Object -/
def k0 : Class := { plain "java/lang/Object" none with
  accessFlags := 33
  interfaces := #[]
  cf := some (fileOf pool0 8 #[] #[{ accessFlags := 1, nameIndex := 5, descriptorIndex := 6, attributes := #[] }] 33 0 #[] #[])
  fields := #[]
  methods := #[k0m0]
  instanceTypes := #[]
  staticTypes := #[]
  resolved := Array.replicate 124 none
  statics := none }

def pool1 : Array CpInfo := pool [(2, .class_ 4), (0, .nameAndType 5 6), (0, u "java/lang/Object"), (0, u "<init>"), (0, u "()V"), (0, .class_ 8), (0, u "com/example/omrakning/omrakning/IssueTerms"), (0, .methodref 7 3), (0, .methodref 7 11), (0, .nameAndType 12 13), (0, u "withParityProtection"), (0, u "()Lcom/example/omrakning/omrakning/IssueTerms;"), (0, .methodref 7 15), (0, .nameAndType 16 17), (0, u "parityProtection"), (0, u "()Z"), (0, .methodref 7 19), (0, .nameAndType 20 21), (0, u "discountThreshold"), (0, u "()Ljava/util/Optional;"), (0, .class_ 23), (0, u "com/example/omrakning/omrakning/IssueTermsWithParityProtectionPinLaw"), (2, u "law"), (0, u "(I)Z")] 3

def k1m0 : Method := { name := "<init>", desc := "()V", sig := { parameters := [], returnType := none }, accessFlags := 2, code := none }
def k1c1 : Code := { maxStack := 2, maxLocals := 10, code := code, exceptionTable := #[], attributes := #[] }
def k1m1 : Method := { name := "law", desc := "(I)Z", sig := { parameters := [.int], returnType := some .boolean }, accessFlags := 9, code := some k1c1 }
/-- com/example/omrakning/omrakning/IssueTermsWithParityProtectionPinLaw -/
def k1 : Class := { plain "com/example/omrakning/omrakning/IssueTermsWithParityProtectionPinLaw" (some 0) with
  accessFlags := 49
  interfaces := #[]
  cf := some (fileOf pool1 22 #[] #[{ accessFlags := 2, nameIndex := 5, descriptorIndex := 6, attributes := #[] }, { accessFlags := 9, nameIndex := 26, descriptorIndex := 27, attributes := #[] }] 49 2 #[] #[])
  fields := #[]
  methods := #[k1m0, k1m1]
  instanceTypes := #[]
  staticTypes := #[]
  resolved := Array.replicate 31 none
  statics := none }

def pool2 : Array CpInfo := pool [(1, .methodref 2 3), (0, .class_ 4), (0, .nameAndType 5 6), (0, u "com/example/omrakning/omrakning/IssueTerms"), (0, u "<init>"), (0, u "(Ljava/math/BigDecimal;Z)V"), (0, .methodref 8 9), (0, .class_ 10), (0, .nameAndType 5 11), (0, u "java/lang/Object"), (0, u "()V"), (0, .fieldref 2 13), (0, .nameAndType 14 15), (0, u "discountThreshold"), (0, u "Ljava/math/BigDecimal;"), (0, .fieldref 2 17), (0, .nameAndType 18 19), (0, u "parityProtection"), (0, u "Z"), (10, .methodref 31 32), (0, .class_ 33), (0, .nameAndType 34 35), (0, u "java/util/Optional"), (0, u "ofNullable"), (0, u "(Ljava/lang/Object;)Ljava/util/Optional;"), (4, u "withParityProtection"), (0, u "()Lcom/example/omrakning/omrakning/IssueTerms;"), (0, u "()Ljava/util/Optional;"), (2, u "()Z")] 2

def k2c0 : Code := { maxStack := 3, maxLocals := 1, code := prog_15_method_1_code, exceptionTable := #[], attributes := #[] }
def k2m0 : Method := { name := "<init>", desc := "()V", sig := { parameters := [], returnType := none }, accessFlags := 1, code := some k2c0 }
def k2c1 : Code := { maxStack := 2, maxLocals := 3, code := prog_15_method_2_code, exceptionTable := #[], attributes := #[] }
def k2m1 : Method := { name := "<init>", desc := "(Ljava/math/BigDecimal;Z)V", sig := { parameters := [(.object "java/math/BigDecimal"), .boolean], returnType := none }, accessFlags := 2, code := some k2c1 }
def k2c2 : Code := { maxStack := 4, maxLocals := 1, code := prog_15_method_4_code, exceptionTable := #[], attributes := #[] }
def k2m2 : Method := { name := "withParityProtection", desc := "()Lcom/example/omrakning/omrakning/IssueTerms;", sig := { parameters := [], returnType := some (.object "com/example/omrakning/omrakning/IssueTerms") }, accessFlags := 1, code := some k2c2 }
def k2c3 : Code := { maxStack := 1, maxLocals := 1, code := prog_15_method_5_code, exceptionTable := #[], attributes := #[] }
def k2m3 : Method := { name := "discountThreshold", desc := "()Ljava/util/Optional;", sig := { parameters := [], returnType := some (.object "java/util/Optional") }, accessFlags := 1, code := some k2c3 }
def k2c4 : Code := { maxStack := 1, maxLocals := 1, code := prog_15_method_6_code, exceptionTable := #[], attributes := #[] }
def k2m4 : Method := { name := "parityProtection", desc := "()Z", sig := { parameters := [], returnType := some .boolean }, accessFlags := 1, code := some k2c4 }
/-- com/example/omrakning/omrakning/IssueTerms -/
def k2 : Class := { plain "com/example/omrakning/omrakning/IssueTerms" (some 0) with
  accessFlags := 49
  interfaces := #[]
  cf := some (fileOf pool2 2 #[] #[{ accessFlags := 1, nameIndex := 5, descriptorIndex := 11, attributes := #[] }, { accessFlags := 2, nameIndex := 5, descriptorIndex := 6, attributes := #[] }, { accessFlags := 1, nameIndex := 40, descriptorIndex := 41, attributes := #[] }, { accessFlags := 1, nameIndex := 14, descriptorIndex := 42, attributes := #[] }, { accessFlags := 1, nameIndex := 18, descriptorIndex := 45, attributes := #[] }] 49 8 #[] #[{ accessFlags := 18, nameIndex := 14, descriptorIndex := 15, attributes := #[] }, { accessFlags := 18, nameIndex := 18, descriptorIndex := 19, attributes := #[] }])
  fields := #[{ name := "discountThreshold", type := (.object "java/math/BigDecimal"), accessFlags := 18, slot := 0, constantValue := 0 }, { name := "parityProtection", type := .boolean, accessFlags := 18, slot := 1, constantValue := 0 }]
  methods := #[k2m0, k2m1, k2m2, k2m3, k2m4]
  instanceTypes := #[(.object "java/math/BigDecimal"), .boolean]
  staticTypes := #[]
  resolved := Array.replicate 48 none
  statics := none }

def pool3 : Array CpInfo := pool [(1, .fieldref 2 3), (0, .class_ 4), (0, .nameAndType 5 6), (0, u "java/util/Optional"), (0, u "EMPTY"), (0, u "Ljava/util/Optional;"), (1, .class_ 10), (1, u "java/lang/Object"), (4, u "value"), (0, u "Ljava/lang/Object;"), (47, u "ofNullable"), (0, u "(Ljava/lang/Object;)Ljava/util/Optional;")] 121

def k3c0 : Code := { maxStack := 3, maxLocals := 1, code := jdk_32_method_4_code, exceptionTable := #[], attributes := #[] }
def k3m0 : Method := { name := "ofNullable", desc := "(Ljava/lang/Object;)Ljava/util/Optional;", sig := { parameters := [(.object "java/lang/Object")], returnType := some (.object "java/util/Optional") }, accessFlags := 9, code := some k3c0 }
/-- java/util/Optional -/
def k3 : Class := { plain "java/util/Optional" (some 0) with
  accessFlags := 49
  interfaces := #[]
  cf := some (fileOf pool3 2 #[] #[{ accessFlags := 9, nameIndex := 64, descriptorIndex := 65, attributes := #[] }] 49 8 #[] #[{ accessFlags := 26, nameIndex := 5, descriptorIndex := 6, attributes := #[] }, { accessFlags := 18, nameIndex := 15, descriptorIndex := 16, attributes := #[] }])
  fields := #[{ name := "EMPTY", type := (.object "java/util/Optional"), accessFlags := 26, slot := 0, constantValue := 0 }, { name := "value", type := (.object "java/lang/Object"), accessFlags := 18, slot := 0, constantValue := 0 }]
  methods := #[k3m0]
  instanceTypes := #[(.object "java/lang/Object")]
  staticTypes := #[(.object "java/util/Optional")]
  resolved := Array.replicate 187 none
  statics := some 0 }

def pool4 : Array CpInfo := pool [(1, u "java/lang/Cloneable"), (0, .class_ 1), (0, u "java/lang/Object"), (0, .class_ 3)] 3

/-- java/lang/Cloneable -/
def k4 : Class := { plain "java/lang/Cloneable" (some 0) with
  accessFlags := 1537
  interfaces := #[]
  cf := some (fileOf pool4 2 #[] #[] 1537 4 #[] #[])
  fields := #[]
  methods := #[]
  instanceTypes := #[]
  staticTypes := #[]
  resolved := Array.replicate 8 none
  statics := none }

def pool5 : Array CpInfo := pool [(1, u "java/io/Serializable"), (0, .class_ 1), (0, u "java/lang/Object"), (0, .class_ 3)] 3

/-- java/io/Serializable -/
def k5 : Class := { plain "java/io/Serializable" (some 0) with
  accessFlags := 1537
  interfaces := #[]
  cf := some (fileOf pool5 2 #[] #[] 1537 4 #[] #[])
  fields := #[]
  methods := #[]
  instanceTypes := #[]
  staticTypes := #[]
  resolved := Array.replicate 8 none
  statics := none }

/-- the primitive byte -/
def k6 : Class := { plain "byte" none with kind := .primitive 'B', accessFlags := 0x411 }
/-- [B -/
def k7 : Class := { plain "[B" (some 0) with kind := .array 6 .byte, interfaces := #[4, 5], accessFlags := 1041 }

/-- the primitive int -/
def k8 : Class := { plain "int" none with kind := .primitive 'I', accessFlags := 0x411 }
/-- [I -/
def k9 : Class := { plain "[I" (some 0) with kind := .array 8 .int, interfaces := #[4, 5], accessFlags := 1041 }

def heap : Heap := #[{ cls := 3, slots := #[.ref 1], vm := .statics 3 },
  { cls := 3, slots := #[.null], vm := .none }]
def classes : Array Class := #[k0, k1, k2, k3, k4, k5, k6, k7, k8, k9]
def interned : List (Array UInt16 × Addr) := []
def slotsUsed : Nat := 2
def theMethod : MethodId := ⟨1, 1⟩
def args0 : Array Value := #[.int 5]
def aboutOver (below : List Frame) : State where
  vm := { classes := classes, interned := interned.toArray }
  heap := heap
  slotsUsed := slotsUsed
  threads := #[{ frames := .invoking theMethod args0 :: below }]
def below0 : List Frame := [.native { method := ⟨0, 0⟩, args := #[] }]
def about1 : State := aboutOver below0
def p0 : Program := .bare "" "" ""
def e0 : Env := launch0.env 0 0 0
theorem w_frames : about1.frames = Frame.invoking theMethod args0 :: below0 := rfl
set_option maxRecDepth 65536 in
theorem w_args : argsFit about1.vm theMethod args0 = true := by decide +kernel
set_option maxRecDepth 65536 in
theorem w_heap : heapFits about1 = true := by decide +kernel
set_option maxRecDepth 65536 in
theorem w_runnable : about1.curStatus? = some .runnable := by decide +kernel
set_option maxRecDepth 65536 in
theorem w_alone : about1.alone = true := by decide +kernel
set_option maxRecDepth 65536 in
theorem w_named : about1.methodNamed? x = some theMethod := by decide +kernel
set_option maxRecDepth 65536 in
theorem w_hears : about1.hears theMethod below0 = true := by decide +kernel
set_option maxRecDepth 65536 in
theorem w_ripe : about1.ripe theMethod args0 below0 = true := by decide +kernel
theorem w_running : about1.status = .running := rfl
set_option maxRecDepth 65536 in
theorem w_room : about1.hasRoom e0.platform room_1 = true :=
  launch0.hasRoom_least _ room_1 (by decide +kernel) (by decide +kernel) (by decide +kernel) (by decide +kernel) (by decide +kernel) (by decide +kernel)
theorem allAtoms_all (ts : List Jvm.Cond) (a : Array Jvm.Value) (st : Jvm.State) : (allAtoms ts).before a st = ts.all (fun c => c.before a st) := by
  induction ts with
  | nil => rfl
  | cons c t ih =>
    show (Jvm.Cond.and c (allAtoms t)).before a st = _
    rw [Jvm.Cond.before_and, ih, List.all_cons]
def words1 : List Jvm.Cond := Jvm.Cond.code x code maxLocals ret :: tables_1
/-- a 'code' word, met by the world's own term for the bytes: nothing is compared byte by byte -/
theorem code_word {y : MethodName} {bytes : ByteArray} {mx : Nat} {rt : Option FieldType} {a : Array Value} {s : State} {m : MethodId} {meth : Method} {c : Code} (h1 : s.methodNamed? y = some m) (h2 : s.vm.method? m = some meth) (h3 : meth.code = some c) (h4 : c.code = bytes)
    (h5 : (c.maxLocals == mx && c.exceptionTable.isEmpty && decide (c.maxStack ≤ mostOperands) && decide (meth.sig.returnType = rt) && !meth.locks && decide (parseMethodDescriptor y.desc = some meth.sig)) = true) : (Jvm.Cond.code y bytes mx rt).before a s = true := by
  simp only [Bool.and_eq_true, beq_iff_eq, Bool.not_eq_true', decide_eq_true_eq] at h5
  obtain ⟨⟨⟨⟨⟨g1, g2⟩, g3⟩, g4⟩, g5⟩, g6⟩ := h5
  simp [Cond.before, Cond.holds, Cond.value, h1, h2, h3, h4, g1, g2, g3, g4, g5, g6]
def isCode : Jvm.Cond → Bool
  | .code _ _ _ _ => true
  | _ => false
theorem all_split {L : List Jvm.Cond} {P : Jvm.Cond → Bool} (h1 : L.all (fun c => isCode c || P c) = true) (h2 : ∀ c ∈ L.filter isCode, P c = true) : L.all P = true := by
  refine List.all_eq_true.mpr fun c hc => ?_
  have h := List.all_eq_true.mp h1 c hc
  rcases Bool.eq_false_or_eq_true (isCode c) with hi | hi
  · exact h2 c (List.mem_filter.mpr ⟨hc, hi⟩)
  · simpa [hi] using h
set_option maxRecDepth 65536 in
theorem w_c0 : (Jvm.Cond.code x code maxLocals ret).before args0 about1 = true := code_word (m := ⟨1, 1⟩) (meth := k1m1) (c := k1c1) (by decide +kernel) rfl rfl rfl (by decide +kernel)
set_option maxRecDepth 65536 in
theorem w_c1 : (Jvm.Cond.code ({ cls := "com/example/omrakning/omrakning/IssueTerms", name := "<init>", desc := "()V" } : Jvm.MethodName) prog_15_method_1_code (1 : Nat) (Option.none : Option Jvm.ClassFile.FieldType)).before args0 about1 = true := code_word (m := ⟨2, 0⟩) (meth := k2m0) (c := k2c0) (by decide +kernel) rfl rfl rfl (by decide +kernel)
set_option maxRecDepth 65536 in
theorem w_c2 : (Jvm.Cond.code ({ cls := "com/example/omrakning/omrakning/IssueTerms", name := "<init>", desc := "(Ljava/math/BigDecimal;Z)V" } : Jvm.MethodName) prog_15_method_2_code (3 : Nat) (Option.none : Option Jvm.ClassFile.FieldType)).before args0 about1 = true := code_word (m := ⟨2, 1⟩) (meth := k2m1) (c := k2c1) (by decide +kernel) rfl rfl rfl (by decide +kernel)
set_option maxRecDepth 65536 in
theorem w_c3 : (Jvm.Cond.code ({ cls := "java/lang/Object", name := "<init>", desc := "()V" } : Jvm.MethodName) object_method_1_code (1 : Nat) (Option.none : Option Jvm.ClassFile.FieldType)).before args0 about1 = true := code_word (m := ⟨0, 0⟩) (meth := k0m0) (c := k0c0) (by decide +kernel) rfl rfl rfl (by decide +kernel)
set_option maxRecDepth 65536 in
theorem w_c4 : (Jvm.Cond.code ({ cls := "com/example/omrakning/omrakning/IssueTerms", name := "withParityProtection", desc := "()Lcom/example/omrakning/omrakning/IssueTerms;" } : Jvm.MethodName) prog_15_method_4_code (1 : Nat) (Option.some (Jvm.ClassFile.FieldType.object "com/example/omrakning/omrakning/IssueTerms"))).before args0 about1 = true := code_word (m := ⟨2, 2⟩) (meth := k2m2) (c := k2c2) (by decide +kernel) rfl rfl rfl (by decide +kernel)
set_option maxRecDepth 65536 in
theorem w_c5 : (Jvm.Cond.code ({ cls := "com/example/omrakning/omrakning/IssueTerms", name := "parityProtection", desc := "()Z" } : Jvm.MethodName) prog_15_method_6_code (1 : Nat) (Option.some Jvm.ClassFile.FieldType.boolean)).before args0 about1 = true := code_word (m := ⟨2, 4⟩) (meth := k2m4) (c := k2c4) (by decide +kernel) rfl rfl rfl (by decide +kernel)
set_option maxRecDepth 65536 in
theorem w_c6 : (Jvm.Cond.code ({ cls := "com/example/omrakning/omrakning/IssueTerms", name := "discountThreshold", desc := "()Ljava/util/Optional;" } : Jvm.MethodName) prog_15_method_5_code (1 : Nat) (Option.some (Jvm.ClassFile.FieldType.object "java/util/Optional"))).before args0 about1 = true := code_word (m := ⟨2, 3⟩) (meth := k2m3) (c := k2c3) (by decide +kernel) rfl rfl rfl (by decide +kernel)
set_option maxRecDepth 65536 in
theorem w_c7 : (Jvm.Cond.code ({ cls := "java/util/Optional", name := "ofNullable", desc := "(Ljava/lang/Object;)Ljava/util/Optional;" } : Jvm.MethodName) jdk_32_method_4_code (1 : Nat) (Option.some (Jvm.ClassFile.FieldType.object "java/util/Optional"))).before args0 about1 = true := code_word (m := ⟨3, 0⟩) (meth := k3m0) (c := k3c0) (by decide +kernel) rfl rfl rfl (by decide +kernel)
def codes1 : List Jvm.Cond := [Jvm.Cond.code x code maxLocals ret, Jvm.Cond.code ({ cls := "com/example/omrakning/omrakning/IssueTerms", name := "<init>", desc := "()V" } : Jvm.MethodName) prog_15_method_1_code (1 : Nat) (Option.none : Option Jvm.ClassFile.FieldType), Jvm.Cond.code ({ cls := "com/example/omrakning/omrakning/IssueTerms", name := "<init>", desc := "(Ljava/math/BigDecimal;Z)V" } : Jvm.MethodName) prog_15_method_2_code (3 : Nat) (Option.none : Option Jvm.ClassFile.FieldType), Jvm.Cond.code ({ cls := "java/lang/Object", name := "<init>", desc := "()V" } : Jvm.MethodName) object_method_1_code (1 : Nat) (Option.none : Option Jvm.ClassFile.FieldType), Jvm.Cond.code ({ cls := "com/example/omrakning/omrakning/IssueTerms", name := "withParityProtection", desc := "()Lcom/example/omrakning/omrakning/IssueTerms;" } : Jvm.MethodName) prog_15_method_4_code (1 : Nat) (Option.some (Jvm.ClassFile.FieldType.object "com/example/omrakning/omrakning/IssueTerms")), Jvm.Cond.code ({ cls := "com/example/omrakning/omrakning/IssueTerms", name := "parityProtection", desc := "()Z" } : Jvm.MethodName) prog_15_method_6_code (1 : Nat) (Option.some Jvm.ClassFile.FieldType.boolean), Jvm.Cond.code ({ cls := "com/example/omrakning/omrakning/IssueTerms", name := "discountThreshold", desc := "()Ljava/util/Optional;" } : Jvm.MethodName) prog_15_method_5_code (1 : Nat) (Option.some (Jvm.ClassFile.FieldType.object "java/util/Optional")), Jvm.Cond.code ({ cls := "java/util/Optional", name := "ofNullable", desc := "(Ljava/lang/Object;)Ljava/util/Optional;" } : Jvm.MethodName) jdk_32_method_4_code (1 : Nat) (Option.some (Jvm.ClassFile.FieldType.object "java/util/Optional"))]
set_option maxRecDepth 65536 in
theorem codes_eq : words1.filter isCode = codes1 := rfl
theorem w_codes : ∀ c ∈ words1.filter isCode, c.before args0 about1 = true := by
  rw [codes_eq]
  intro c hc
  simp only [codes1, List.mem_cons, List.not_mem_nil, or_false] at hc
  rcases hc with rfl | rfl | rfl | rfl | rfl | rfl | rfl | rfl
  · exact w_c0
  · exact w_c1
  · exact w_c2
  · exact w_c3
  · exact w_c4
  · exact w_c5
  · exact w_c6
  · exact w_c7
set_option maxRecDepth 65536 in
theorem w_t1 : (words1.take 24).all (fun c => isCode c || c.before args0 about1) = true := by decide +kernel
set_option maxRecDepth 65536 in
theorem w_t2 : (words1.drop 24).all (fun c => isCode c || c.before args0 about1) = true := by decide +kernel
theorem w_tables : (allAtoms (Jvm.Cond.code x code maxLocals ret :: tables_1)).before args0 about1 = true := by
  rw [allAtoms_all]
  show words1.all (fun c => c.before args0 about1) = true
  refine all_split ?_ w_codes
  rw [← List.take_append_drop 24 words1, List.all_append, w_t1, w_t2]
  rfl
set_option maxRecDepth 65536 in
theorem w_rest : rest_1_c.before args0 about1 = true := by decide +kernel
set_option maxRecDepth 65536 in
theorem w_case : (Jvm.Cond.and given_1 narrow_1).before args0 about1 = true := by decide +kernel
theorem w_applies : (headSpec (Jvm.Cond.code x code maxLocals ret :: tables_1) room_1).applies x e0.platform about1 = true :=
  (Spec.applies_iff w_frames).mpr ⟨w_running, w_runnable, w_alone, w_named, w_hears, w_ripe, w_room, w_tables⟩
theorem atStart : AtStart classFile x code maxLocals ret World_1 tables_1 room_1 Calls_1 rest_1 Pre_1 launch0 p0 e0 about1 theMethod args0 below0 :=
  ⟨lists_1, trivial, launch0.admits_env _ _ _, launch0.least_env, fairChoices_fair.cas, fairChoices_fair.clock, w_frames, w_args, w_heap, w_applies, trivial, w_rest, w_case⟩
end start1
theorem witness_1 : WitnessClaimed_1 := ⟨start1.p0, start1.e0, start1.about1, start1.theMethod, start1.args0, start1.below0, start1.atStart⟩
end Jvm.Pilot.@@N@@
