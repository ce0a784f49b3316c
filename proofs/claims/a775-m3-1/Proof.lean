import JvmDerived
import JvmDerived.Pilot.@@N@@Statement
import JvmDerived.Pilot.@@N@@Code
set_option linter.unusedVariables false
set_option linter.unusedSimpArgs false
namespace Jvm.Pilot.@@N@@
open Jvm Jvm.ClassFile Sem Op Lib Jvm.Free Jvm.Stand Jvm.LawKit Jvm.RoadKit Bundle Jvm.Pilot.@@N@@.Jvm.D
section OwnBase
variable {tb : Tables} {e : Env} {below : List Frame} {A B : State} {K : State → Outcome → Prop}
/-- from A the run comes to an end of which K holds -/
def own_Ends (tb : Tables) (e : Env) (below : List Frame) (A : State) (K : State → Outcome → Prop) : Prop := ∃ t o, Steps tb e below A t ∧ K t o
theorem own_open {P : State → Outcome → Prop} (h : ∀ K : State → Outcome → Prop, (∀ t o, P t o → K t o) → own_Ends tb e below A K) : ∃ t o, Steps tb e below A t ∧ P t o := h P fun _ _ q => q
theorem own_go (h : ∀ t, Steps tb e below B t → Steps tb e below A t) (k : own_Ends tb e below B K) : own_Ends tb e below A K := by
  obtain ⟨t, o, h1, h2⟩ := k; exact ⟨t, o, h t h1, h2⟩
theorem own_n0 {Z : State} {n0 : Nat} {h : Heap} (O : Old Z n0 h) : n0 ≤ h.size := O.1 ▸ O.2.1
theorem own_bt {P : Prop} [Decidable P] (h : P) : ¬ ((if P then (1 : Int32) else 0) = 0) := by rw [if_pos h]; decide
theorem own_bf {P : Prop} [Decidable P] (h : ¬ P) : (if P then (1 : Int32) else 0) = 0 := by rw [if_neg h]
theorem own_lt_n0 {Z : State} {n0 : Nat} {h : Heap} {a : Addr} (O : Old Z n0 h) (q : a < Z.heap.size) : a < n0 := O.1 ▸ q
section OwnRet
variable {p : Program} {l : Launch} {R : Room} {s : State} {m : MethodId} {args : Array Value} {meth : Method} {c : Code} {T : State} {locs : List Loc} {cells slots : Nat}
theorem own_retI (X : Stand p l e R s m args below meth c T locs cells slots) (hx : p.tables.exec = Jvm.exec) {pc : Nat} {Ls : Array Slot} {z : Int32} {rest : List Value} (hret : meth.sig.returnType = some .int) (hd : decode c.code pc = .ok (.ireturn, 1)) {fs : List Frame}
    (hl : ∀ (f : JFrame) (acts : List Action), f.method = m → f.locked = none → f.entered = [] → (doReturn e (T.setTop f) acts (some (.int z))).1 = T.setFrames fs) : Steps p.tables e below (T.setTop (mkF m pc Ls (.int z :: rest))) (T.setFrames fs) :=
  retOut X hx hret rfl (Or.inl ⟨rfl, Or.inl rfl, z, rfl⟩) hd hl
theorem own_retL (X : Stand p l e R s m args below meth c T locs cells slots) (hx : p.tables.exec = Jvm.exec) {pc : Nat} {Ls : Array Slot} {z : Int64} {rest : List Value} (hret : meth.sig.returnType = some .long) (hd : decode c.code pc = .ok (.lreturn, 1)) {fs : List Frame}
    (hl : ∀ (f : JFrame) (acts : List Action), f.method = m → f.locked = none → f.entered = [] → (doReturn e (T.setTop f) acts (some (.long z))).1 = T.setFrames fs) : Steps p.tables e below (T.setTop (mkF m pc Ls (.long z :: rest))) (T.setFrames fs) :=
  retOut X hx hret rfl (Or.inr (Or.inl ⟨rfl, rfl, z, rfl⟩)) hd hl
theorem own_retA (X : Stand p l e R s m args below meth c T locs cells slots) (hx : p.tables.exec = Jvm.exec) {pc : Nat} {Ls : Array Slot} {w : Value} {t : FieldType} {rest : List Value} (hret : meth.sig.returnType = some t) (ht : t.isReference = true) (hw : w.isRef = true) (hd : decode c.code pc = .ok (.areturn, 1)) {fs : List Frame}
    (hl : ∀ (f : JFrame) (acts : List Action), f.method = m → f.locked = none → f.entered = [] → (doReturn e (T.setTop f) acts (some w)).1 = T.setFrames fs) : Steps p.tables e below (T.setTop (mkF m pc Ls (w :: rest))) (T.setFrames fs) := by
  have hn : narrow t w = w := by cases t <;> first | rfl | exact Bool.noConfusion ht
  exact retOut X hx hret hn (Or.inr (Or.inr (Or.inr (Or.inr ⟨rfl, ht, hw⟩)))) hd hl
end OwnRet
end OwnBase
theorem own_fldI {Z : State} {args : Array Value} {t : Term} {C n d : String} {x : Addr} {k : Int32} (ev : t.eval args Z none [] Z = some (.ref x)) (h : (Jvm.Cond.eq (Term.field t C n d) (Term.int k)).value args Z none Z [] = some true) : Fld Z Z.heap x C n d (.int k) := by
  apply Fld.start
  rw [← fld_at (t := t) (args := args) (first := Z) (o := none) (idx := []) ev]
  obtain ⟨y, z, h1, h2, -, -⟩ := cmp_v (Or.inl h)
  have h3 : z = .int k := Option.some.inj (h2.symm.trans (Term.int_eval k))
  subst h3
  rw [h1]
  simp only [Jvm.Cond.value] at h
  rw [h1, h2] at h
  cases y <;> simp at h ⊢
  exact h

theorem own_d2_0 : decode method_2_code 0 = .ok (.iload_n 0, 1) := by decide +kernel
theorem own_d2_1 : decode method_2_code 1 = .ok (.ifCond .eq 7, 3) := by decide +kernel
theorem own_d2_8 : decode method_2_code 8 = .ok (.getstatic 13, 3) := by decide +kernel
theorem own_d2_11 : decode method_2_code 11 = .ok (.areturn, 1) := by decide +kernel
theorem own_d2_4 : decode method_2_code 4 = .ok (.getstatic 7, 3) := by decide +kernel
theorem own_d2_7 : decode method_2_code 7 = .ok (.areturn, 1) := by decide +kernel
theorem own_pn_0 : plainName "com/example/interleave/interleave/engine/LockModeConflictsWithPinLaw" = true := by first | (simp [plainName, overriddenIn]; done) | decide +kernel
theorem own_ef_pick (m : MethodId) (x0 : Int32)  : entryFrame m #[(.int x0)] 1 = mkF m 0 #[.val (.int x0)] [] := by first | (simp [entryFrame, mkF, argsToLocals, Value.category]; done) | rfl
def own_Q_pick (Z : State) (q1 : Int32) (w_SHARED w_EXCLUSIVE r : Addr) (h0 : Heap) (n0 : Nat) (v : Option Value) (h : Heap) (L : List Loc) : Prop := v = some (.ref r) ∧ Fr n0 L ∧ h = h0
set_option maxRecDepth 65536 in
set_option maxHeartbeats 40000000 in
theorem own_rm_pick (l : Launch) (Z : State) (a0 : Array Value) (hw : ∀ d ∈ tables_1, d.before a0 Z = true) (ws : List Jvm.Cond) (q1 : Int32) (w_SHARED w_EXCLUSIVE r : Addr) (h0 : Heap) (n0 : Nat) (O0 : Old Z n0 h0) (S_SHARED : Sta Z Z.heap "com/example/interleave/interleave/engine/LockMode" "SHARED" "Lcom/example/interleave/interleave/engine/LockMode;" (.ref w_SHARED)) (S_EXCLUSIVE : Sta Z Z.heap "com/example/interleave/interleave/engine/LockMode" "EXCLUSIVE" "Lcom/example/interleave/interleave/engine/LockMode;" (.ref w_EXCLUSIVE)) (hr0 : r = if q1 = 0 then w_SHARED else w_EXCLUSIVE) :
    MetFree l (⟨"com/example/interleave/interleave/engine/LockModeConflictsWithPinLaw", "pick", "(Z)Lcom/example/interleave/interleave/engine/LockMode;"⟩ : MethodName) (head1 (Jvm.Cond.code (⟨"com/example/interleave/interleave/engine/LockModeConflictsWithPinLaw", "pick", "(Z)Lcom/example/interleave/interleave/engine/LockMode;"⟩ : MethodName) method_2_code 1 (some (.object "com/example/interleave/interleave/engine/LockMode")) :: ws) ({ frames := 0, cells := 0, slots := 0, locals := 0 } : Room)) (fun ar9 U => ar9 = #[(.int q1)] ∧ Z.Warmed39 U.vm ∧ U.heap = h0) (fun _ _ _ _ _ => True) (fun _ U o U' => ∃ v L, o = .returned v ∧ own_Q_pick Z q1 w_SHARED w_EXCLUSIVE r h0 n0 v U'.heap L ∧ FrameEnd U o U' L ({ frames := 0, cells := 0, slots := 0, locals := 0 } : Room).cells ({ frames := 0, cells := 0, slots := 0, locals := 0 } : Room).slots) := by
  refine MetFree.of_bodySF (plainFor_of_name own_pn_0) hisR ?_
  intro p e s m args below meth c s₁ Bd hml0 hP hK0
  obtain ⟨rfl, hZ, hh⟩ := hP
  have hx := Bd.exec
  have hby := Bd.bytes
  have hml : c.maxLocals = 1 := hml0
  have hown : s.vm.findClass "com/example/interleave/interleave/engine/LockModeConflictsWithPinLaw" = some m.cls := findClass_of_methodNamed Bd.named
  have hnm := (name_of_methodNamed Bd.named Bd.method).1
  have X0 : Stand p l e ({ frames := 0, cells := 0, slots := 0, locals := 0 } : Room) s m #[(.int q1)] below meth c s₁ [] 0 0 := Stand.of_body Bd
  have e0 : s₁.heap = h0 := by rw [← hh, Bd.state]; rfl
  have N0 := Fr.nil n0
  refine own_open fun K hK => ?_
  refine own_go (B := s₁.setTop (mkF m 0 #[.val (.int q1)] [])) (fun t k => castTop (own_ef_pick m q1) k) ?_
  refine own_go (B := s₁.setTop (mkF m 1 #[.val (.int q1)] [(.int q1)])) (fun t k => XS.iloadN X0.here hx rfl (hb hby own_d2_0) rfl k) ?_
  by_cases hc1_1 : q1 = (0 : Int32)
  · refine own_go (B := s₁.setTop (mkF m 8 #[.val (.int q1)] [])) (fun t k => XS.ifYes X0.here hx rfl (pc0 := 1) (pc' := 8) rfl (hb hby own_d2_1) rfl ((if0 _ _).trans (teq hc1_1).1) (by decide) (by decide) k) ?_
    obtain ⟨T2, X2, e2, st2⟩ := getS2 X0 hx hZ hown (host := "") (Or.inl (hw _ (List.mem_of_getElem? (i := 4) rfl))) Via.refl e0 (S_SHARED.ext O0.2) (g := (mkF m 8 #[.val (.int q1)] [])) rfl (hb hby own_d2_8)
    refine own_go (B := T2.setTop (mkF m 11 #[.val (.int q1)] [(.ref w_SHARED)])) (fun t k => st2 _ k) ?_
    obtain ⟨fs, hr, hrun, hended, hW, hsame⟩ := X2.leave (v := some (.ref w_SHARED)) (fun h => by rw [Bd.returns] at h; cases h)
    refine ⟨_, _, own_retA X2 hx Bd.returns rfl rfl (hb hby own_d2_11) hr, hK _ _ ⟨hrun, hended, _, _, rfl, ?_, ⟨_, rfl⟩, hW, hsame.mono (by decide) (by decide)⟩⟩
    show own_Q_pick Z q1 w_SHARED w_EXCLUSIVE r h0 n0 _ T2.heap _
    rw [e2]
    exact ⟨(by rw [hr0, if_pos hc1_1]), N0, rfl⟩
  · refine own_go (B := s₁.setTop (mkF m 4 #[.val (.int q1)] [])) (fun t k => XS.ifNo X0.here hx rfl (hb hby own_d2_1) rfl ((if0 _ _).trans (feq hc1_1).1) k) ?_
    obtain ⟨T4, X4, e4, st4⟩ := getS2 X0 hx hZ hown (host := "") (Or.inl (hw _ (List.mem_of_getElem? (i := 7) rfl))) Via.refl e0 (S_EXCLUSIVE.ext O0.2) (g := (mkF m 4 #[.val (.int q1)] [])) rfl (hb hby own_d2_4)
    refine own_go (B := T4.setTop (mkF m 7 #[.val (.int q1)] [(.ref w_EXCLUSIVE)])) (fun t k => st4 _ k) ?_
    obtain ⟨fs, hr, hrun, hended, hW, hsame⟩ := X4.leave (v := some (.ref w_EXCLUSIVE)) (fun h => by rw [Bd.returns] at h; cases h)
    refine ⟨_, _, own_retA X4 hx Bd.returns rfl rfl (hb hby own_d2_7) hr, hK _ _ ⟨hrun, hended, _, _, rfl, ?_, ⟨_, rfl⟩, hW, hsame.mono (by decide) (by decide)⟩⟩
    show own_Q_pick Z q1 w_SHARED w_EXCLUSIVE r h0 n0 _ T4.heap _
    rw [e4]
    exact ⟨(by rw [hr0, if_neg hc1_1]), N0, rfl⟩
theorem own_d0_0 : decode prog_31_method_5_code 0 = .ok (.aload_n 0, 1) := by decide +kernel
theorem own_d0_1 : decode prog_31_method_5_code 1 = .ok (.getstatic 7, 3) := by decide +kernel
theorem own_d0_4 : decode prog_31_method_5_code 4 = .ok (.if_acmp .eq 10, 3) := by decide +kernel
theorem own_d0_14 : decode prog_31_method_5_code 14 = .ok (.iconst 1, 1) := by decide +kernel
theorem own_d0_15 : decode prog_31_method_5_code 15 = .ok (.goto 4, 3) := by decide +kernel
theorem own_d0_19 : decode prog_31_method_5_code 19 = .ok (.ireturn, 1) := by decide +kernel
theorem own_d0_7 : decode prog_31_method_5_code 7 = .ok (.aload_n 1, 1) := by decide +kernel
theorem own_d0_8 : decode prog_31_method_5_code 8 = .ok (.getstatic 7, 3) := by decide +kernel
theorem own_d0_11 : decode prog_31_method_5_code 11 = .ok (.if_acmp .ne 7, 3) := by decide +kernel
theorem own_d0_18 : decode prog_31_method_5_code 18 = .ok (.iconst 0, 1) := by decide +kernel
theorem own_pn_1 : plainName "com/example/interleave/interleave/engine/LockMode" = true := by first | (simp [plainName, overriddenIn]; done) | decide +kernel
theorem own_ef_conf (m : MethodId) (x0 : Addr) (x1 : Addr)  : entryFrame m #[(.ref x0), (.ref x1)] 2 = mkF m 0 #[.val (.ref x0), .val (.ref x1)] [] := by first | (simp [entryFrame, mkF, argsToLocals, Value.category]; done) | rfl
def own_Q_conf (Z : State) (a b w_EXCLUSIVE : Addr) (r : Int32) (h0 : Heap) (n0 : Nat) (v : Option Value) (h : Heap) (L : List Loc) : Prop := v = some (.int r) ∧ Fr n0 L ∧ h = h0
set_option maxRecDepth 65536 in
set_option maxHeartbeats 40000000 in
theorem own_rm_conf (l : Launch) (Z : State) (a0 : Array Value) (hw : ∀ d ∈ tables_1, d.before a0 Z = true) (ws : List Jvm.Cond) (a b w_EXCLUSIVE : Addr) (r : Int32) (h0 : Heap) (n0 : Nat) (O0 : Old Z n0 h0) (S_EXCLUSIVE : Sta Z Z.heap "com/example/interleave/interleave/engine/LockMode" "EXCLUSIVE" "Lcom/example/interleave/interleave/engine/LockMode;" (.ref w_EXCLUSIVE)) (hr0 : r = if a = w_EXCLUSIVE ∨ b = w_EXCLUSIVE then 1 else 0) :
    MetFree l (⟨"com/example/interleave/interleave/engine/LockMode", "conflictsWith", "(Lcom/example/interleave/interleave/engine/LockMode;)Z"⟩ : MethodName) (head1 (Jvm.Cond.code (⟨"com/example/interleave/interleave/engine/LockMode", "conflictsWith", "(Lcom/example/interleave/interleave/engine/LockMode;)Z"⟩ : MethodName) prog_31_method_5_code 2 (some .boolean) :: ws) ({ frames := 0, cells := 0, slots := 0, locals := 0 } : Room)) (fun ar9 U => ar9 = #[(.ref a), (.ref b)] ∧ Z.Warmed39 U.vm ∧ U.heap = h0) (fun _ _ _ _ _ => True) (fun _ U o U' => ∃ v L, o = .returned v ∧ own_Q_conf Z a b w_EXCLUSIVE r h0 n0 v U'.heap L ∧ FrameEnd U o U' L ({ frames := 0, cells := 0, slots := 0, locals := 0 } : Room).cells ({ frames := 0, cells := 0, slots := 0, locals := 0 } : Room).slots) := by
  refine MetFree.of_bodySF (plainFor_of_name own_pn_1) hisR ?_
  intro p e s m args below meth c s₁ Bd hml0 hP hK0
  obtain ⟨rfl, hZ, hh⟩ := hP
  have hx := Bd.exec
  have hby := Bd.bytes
  have hml : c.maxLocals = 2 := hml0
  have hown : s.vm.findClass "com/example/interleave/interleave/engine/LockMode" = some m.cls := findClass_of_methodNamed Bd.named
  have hnm := (name_of_methodNamed Bd.named Bd.method).1
  have X0 : Stand p l e ({ frames := 0, cells := 0, slots := 0, locals := 0 } : Room) s m #[(.ref a), (.ref b)] below meth c s₁ [] 0 0 := Stand.of_body Bd
  have e0 : s₁.heap = h0 := by rw [← hh, Bd.state]; rfl
  have N0 := Fr.nil n0
  refine own_open fun K hK => ?_
  refine own_go (B := s₁.setTop (mkF m 0 #[.val (.ref a), .val (.ref b)] [])) (fun t k => castTop (own_ef_conf m a b) k) ?_
  refine own_go (B := s₁.setTop (mkF m 1 #[.val (.ref a), .val (.ref b)] [(.ref a)])) (fun t k => XS.aloadN X0.here hx rfl (hb hby own_d0_0) rfl rfl k) ?_
  obtain ⟨T6, X6, e6, st6⟩ := getS2 X0 hx hZ hown (host := "") (Or.inl (hw _ (List.mem_of_getElem? (i := 14) rfl))) Via.refl e0 (S_EXCLUSIVE.ext O0.2) (g := (mkF m 1 #[.val (.ref a), .val (.ref b)] [(.ref a)])) rfl (hb hby own_d0_1)
  refine own_go (B := T6.setTop (mkF m 4 #[.val (.ref a), .val (.ref b)] [(.ref w_EXCLUSIVE), (.ref a)])) (fun t k => st6 _ k) ?_
  by_cases hc7 : a = w_EXCLUSIVE
  · refine own_go (B := T6.setTop (mkF m 14 #[.val (.ref a), .val (.ref b)] [])) (fun t k => Jvm.RoadKit.acmp (g := (mkF m 4 #[.val (.ref a), .val (.ref b)] [(.ref w_EXCLUSIVE), (.ref a)])) X6 hx rfl rfl rfl (pc0 := 4) (pc' := 14) (same := true) rfl (hb hby own_d0_4) rfl (decide_eq_true (congrArg Value.ref hc7)) (by decide) (by decide) k) ?_
    refine own_go (B := T6.setTop (mkF m 15 #[.val (.ref a), .val (.ref b)] [(.int (1 : Int32))])) (fun t k => XS.iconst X6.here hx rfl (hb hby own_d0_14) k) ?_
    refine own_go (B := T6.setTop (mkF m 19 #[.val (.ref a), .val (.ref b)] [(.int (1 : Int32))])) (fun t k => XS.goto X6.here hx rfl (pc0 := 15) (pc' := 19) rfl (hb hby own_d0_15) (by decide) (by decide) k) ?_
    obtain ⟨fs, hr, hrun, hended, hW, hsame⟩ := X6.leave (v := some (.int (1 : Int32))) (fun h => by rw [Bd.returns] at h; cases h)
    refine ⟨_, _, retN X6 hx (t := .boolean) Bd.returns (by simp) (hb hby own_d0_19) hr, hK _ _ ⟨hrun, hended, _, _, rfl, ?_, ⟨_, rfl⟩, hW, hsame.mono (by decide) (by decide)⟩⟩
    show own_Q_conf Z a b w_EXCLUSIVE r h0 n0 _ T6.heap _
    rw [e6]
    exact ⟨(by rw [hr0]; simp [hc7]), N0, rfl⟩
  · refine own_go (B := T6.setTop (mkF m 7 #[.val (.ref a), .val (.ref b)] [])) (fun t k => Jvm.RoadKit.acmp (g := (mkF m 4 #[.val (.ref a), .val (.ref b)] [(.ref w_EXCLUSIVE), (.ref a)])) X6 hx rfl rfl rfl (pc0 := 4) (pc' := 7) (same := false) rfl (hb hby own_d0_4) rfl (decide_eq_false fun q => hc7 (Value.ref.inj q)) (by decide) (by decide) k) ?_
    refine own_go (B := T6.setTop (mkF m 8 #[.val (.ref a), .val (.ref b)] [(.ref b)])) (fun t k => XS.aloadN X6.here hx rfl (hb hby own_d0_7) rfl rfl k) ?_
    obtain ⟨T9, X9, e9, st9⟩ := getS2 X6 hx hZ hown (host := "") (Or.inl (hw _ (List.mem_of_getElem? (i := 14) rfl))) Via.refl e6 (S_EXCLUSIVE.ext O0.2) (g := (mkF m 8 #[.val (.ref a), .val (.ref b)] [(.ref b)])) rfl (hb hby own_d0_8)
    refine own_go (B := T9.setTop (mkF m 11 #[.val (.ref a), .val (.ref b)] [(.ref w_EXCLUSIVE), (.ref b)])) (fun t k => st9 _ k) ?_
    by_cases hc10 : b = w_EXCLUSIVE
    · refine own_go (B := T9.setTop (mkF m 14 #[.val (.ref a), .val (.ref b)] [])) (fun t k => Jvm.RoadKit.acmp (g := (mkF m 11 #[.val (.ref a), .val (.ref b)] [(.ref w_EXCLUSIVE), (.ref b)])) X9 hx rfl rfl rfl (pc0 := 11) (pc' := 14) (same := true) rfl (hb hby own_d0_11) rfl (decide_eq_true (congrArg Value.ref hc10)) (by decide) (by decide) k) ?_
      refine own_go (B := T9.setTop (mkF m 15 #[.val (.ref a), .val (.ref b)] [(.int (1 : Int32))])) (fun t k => XS.iconst X9.here hx rfl (hb hby own_d0_14) k) ?_
      refine own_go (B := T9.setTop (mkF m 19 #[.val (.ref a), .val (.ref b)] [(.int (1 : Int32))])) (fun t k => XS.goto X9.here hx rfl (pc0 := 15) (pc' := 19) rfl (hb hby own_d0_15) (by decide) (by decide) k) ?_
      obtain ⟨fs, hr, hrun, hended, hW, hsame⟩ := X9.leave (v := some (.int (1 : Int32))) (fun h => by rw [Bd.returns] at h; cases h)
      refine ⟨_, _, retN X9 hx (t := .boolean) Bd.returns (by simp) (hb hby own_d0_19) hr, hK _ _ ⟨hrun, hended, _, _, rfl, ?_, ⟨_, rfl⟩, hW, hsame.mono (by decide) (by decide)⟩⟩
      show own_Q_conf Z a b w_EXCLUSIVE r h0 n0 _ T9.heap _
      rw [e9]
      exact ⟨(by rw [hr0]; simp [hc7, hc10]), N0, rfl⟩
    · refine own_go (B := T9.setTop (mkF m 18 #[.val (.ref a), .val (.ref b)] [])) (fun t k => Jvm.RoadKit.acmp (g := (mkF m 11 #[.val (.ref a), .val (.ref b)] [(.ref w_EXCLUSIVE), (.ref b)])) X9 hx rfl rfl rfl (pc0 := 11) (pc' := 18) (same := false) rfl (hb hby own_d0_11) rfl (decide_eq_false fun q => hc10 (Value.ref.inj q)) (by decide) (by decide) k) ?_
      refine own_go (B := T9.setTop (mkF m 19 #[.val (.ref a), .val (.ref b)] [(.int (0 : Int32))])) (fun t k => XS.iconst X9.here hx rfl (hb hby own_d0_18) k) ?_
      obtain ⟨fs, hr, hrun, hended, hW, hsame⟩ := X9.leave (v := some (.int (0 : Int32))) (fun h => by rw [Bd.returns] at h; cases h)
      refine ⟨_, _, retN X9 hx (t := .boolean) Bd.returns (by simp) (hb hby own_d0_19) hr, hK _ _ ⟨hrun, hended, _, _, rfl, ?_, ⟨_, rfl⟩, hW, hsame.mono (by decide) (by decide)⟩⟩
      show own_Q_conf Z a b w_EXCLUSIVE r h0 n0 _ T9.heap _
      rw [e9]
      exact ⟨(by rw [hr0]; simp [hc7, hc10]), N0, rfl⟩
theorem own_pd_0 : parseMethodDescriptor "(Z)Lcom/example/interleave/interleave/engine/LockMode;" = some ⟨[.boolean], some (.object "com/example/interleave/interleave/engine/LockMode")⟩ := by decide +kernel
theorem own_pd_1 : parseMethodDescriptor "(Lcom/example/interleave/interleave/engine/LockMode;)Z" = some ⟨[(.object "com/example/interleave/interleave/engine/LockMode")], some .boolean⟩ := by decide +kernel
theorem own_ef_law (m : MethodId) (x0 : Int32) (x1 : Int32)  : entryFrame m #[(.int x0), (.int x1)] maxLocals = mkF m 0 #[.val (.int x0), .val (.int x1), .unset, .unset, .unset, .unset, .unset, .unset] [] := by first | (simp [entryFrame, mkF, argsToLocals, Value.category, maxLocals]; done) | rfl
def own_Q_law (Z : State) (p1 : Int32) (p2 : Int32) (w_SHARED w_EXCLUSIVE : Addr) (h0 : Heap) (n0 : Nat) (v : Option Value) (h : Heap) (L : List Loc) : Prop := v = some (.int 1) ∧ Fr n0 L
set_option maxRecDepth 65536 in
set_option maxHeartbeats 40000000 in
theorem own_rm_law (l : Launch) (Z : State) (a0 : Array Value) (hw : ∀ d ∈ tables_1, d.before a0 Z = true) (ws : List Jvm.Cond) (p1 : Int32) (p2 : Int32) (w_SHARED w_EXCLUSIVE : Addr) (h0 : Heap) (n0 : Nat) (O0 : Old Z n0 h0) (S_SHARED : Sta Z Z.heap "com/example/interleave/interleave/engine/LockMode" "SHARED" "Lcom/example/interleave/interleave/engine/LockMode;" (.ref w_SHARED)) (E_SHARED : Exa Z Z.heap w_SHARED "com/example/interleave/interleave/engine/LockMode") (S_EXCLUSIVE : Sta Z Z.heap "com/example/interleave/interleave/engine/LockMode" "EXCLUSIVE" "Lcom/example/interleave/interleave/engine/LockMode;" (.ref w_EXCLUSIVE)) (E_EXCLUSIVE : Exa Z Z.heap w_EXCLUSIVE "com/example/interleave/interleave/engine/LockMode") (F_SHARED_ordinal : Fld Z Z.heap w_SHARED "java/lang/Enum" "ordinal" "I" (.int (0 : Int32))) (F_EXCLUSIVE_ordinal : Fld Z Z.heap w_EXCLUSIVE "java/lang/Enum" "ordinal" "I" (.int (1 : Int32))) (hne : ¬ w_SHARED = w_EXCLUSIVE) :
    MetFree l x (head1 (Jvm.Cond.code x code maxLocals ret :: ws) room_1) (fun ar9 U => ar9 = #[(.int p1), (.int p2)] ∧ Z.Warmed39 U.vm ∧ U.heap = h0) (fun _ _ _ _ _ => True) (fun _ U o U' => ∃ v L, o = .returned v ∧ own_Q_law Z p1 p2 w_SHARED w_EXCLUSIVE h0 n0 v U'.heap L ∧ FrameEnd U o U' L room_1.cells room_1.slots) := by
  refine MetFree.of_bodySF (plainFor_of_name own_pn_0) hisR ?_
  intro p e s m args below meth c s₁ Bd hml0 hP hK0
  obtain ⟨rfl, hZ, hh⟩ := hP
  have hx := Bd.exec
  have hby := Bd.bytes
  have hml : c.maxLocals = 8 := hml0
  have hown : s.vm.findClass "com/example/interleave/interleave/engine/LockModeConflictsWithPinLaw" = some m.cls := findClass_of_methodNamed Bd.named
  have hnm := (name_of_methodNamed Bd.named Bd.method).1
  have X0 : Stand p l e room_1 s m #[(.int p1), (.int p2)] below meth c s₁ [] 0 0 := Stand.of_body Bd
  have e0 : s₁.heap = h0 := by rw [← hh, Bd.state]; rfl
  have N0 := Fr.nil n0
  refine own_open fun K hK => ?_
  refine own_go (B := s₁.setTop (mkF m 0 #[.val (.int p1), .val (.int p2), .unset, .unset, .unset, .unset, .unset, .unset] [])) (fun t k => castTop (own_ef_law m p1 p2) k) ?_
  refine own_go (B := s₁.setTop (mkF m 1 #[.val (.int p1), .val (.int p2), .unset, .unset, .unset, .unset, .unset, .unset] [(.int p1)])) (fun t k => XS.iloadN X0.here hx rfl (hb hby at_0) rfl k) ?_
  refine own_go (B := s₁.setTop (mkF m 2 #[.val (.int p1), .val (.int p2), .unset, .unset, .unset, .unset, .unset, .unset] [(.int (1 : Int32)), (.int p1)])) (fun t k => XS.iconst X0.here hx rfl (hb hby at_1) k) ?_
  refine own_go (B := s₁.setTop (mkF m 3 #[.val (.int p1), .val (.int p2), .unset, .unset, .unset, .unset, .unset, .unset] [(.int (p1 &&& (1 : Int32)))])) (fun t k => XS.iand X0.here hx rfl (hb hby at_2) rfl k) ?_
  by_cases hc3_13 : (p1 &&& (1 : Int32)) = (0 : Int32)
  · refine own_go (B := s₁.setTop (mkF m 10 #[.val (.int p1), .val (.int p2), .unset, .unset, .unset, .unset, .unset, .unset] [])) (fun t k => XS.ifYes X0.here hx rfl (pc0 := 3) (pc' := 10) rfl (hb hby at_3) rfl ((if0 _ _).trans (teq hc3_13).1) (by decide) (by decide) k) ?_
    refine own_go (B := s₁.setTop (mkF m 11 #[.val (.int p1), .val (.int p2), .unset, .unset, .unset, .unset, .unset, .unset] [(.int (0 : Int32))])) (fun t k => XS.iconst X0.here hx rfl (hb hby at_10) k) ?_
    refine own_go (B := s₁.setTop (mkF m 12 #[.val (.int p1), .val (.int p2), .val (.int (0 : Int32)), .unset, .unset, .unset, .unset, .unset] [])) (fun t k => XS.istoreN X0.here hx rfl (hb hby at_11) rfl (l' := #[.val (.int p1), .val (.int p2), .val (.int (0 : Int32)), .unset, .unset, .unset, .unset, .unset]) rfl k) ?_
    refine own_go (B := s₁.setTop (mkF m 13 #[.val (.int p1), .val (.int p2), .val (.int (0 : Int32)), .unset, .unset, .unset, .unset, .unset] [(.int p2)])) (fun t k => XS.iloadN X0.here hx rfl (hb hby at_12) rfl k) ?_
    refine own_go (B := s₁.setTop (mkF m 14 #[.val (.int p1), .val (.int p2), .val (.int (0 : Int32)), .unset, .unset, .unset, .unset, .unset] [(.int (1 : Int32)), (.int p2)])) (fun t k => XS.iconst X0.here hx rfl (hb hby at_13) k) ?_
    refine own_go (B := s₁.setTop (mkF m 15 #[.val (.int p1), .val (.int p2), .val (.int (0 : Int32)), .unset, .unset, .unset, .unset, .unset] [(.int (p2 &&& (1 : Int32)))])) (fun t k => XS.iand X0.here hx rfl (hb hby at_14) rfl k) ?_
    by_cases hc15_14 : (p2 &&& (1 : Int32)) = (0 : Int32)
    · refine own_go (B := s₁.setTop (mkF m 22 #[.val (.int p1), .val (.int p2), .val (.int (0 : Int32)), .unset, .unset, .unset, .unset, .unset] [])) (fun t k => XS.ifYes X0.here hx rfl (pc0 := 15) (pc' := 22) rfl (hb hby at_15) rfl ((if0 _ _).trans (teq hc15_14).1) (by decide) (by decide) k) ?_
      refine own_go (B := s₁.setTop (mkF m 23 #[.val (.int p1), .val (.int p2), .val (.int (0 : Int32)), .unset, .unset, .unset, .unset, .unset] [(.int (0 : Int32))])) (fun t k => XS.iconst X0.here hx rfl (hb hby at_22) k) ?_
      refine own_go (B := s₁.setTop (mkF m 24 #[.val (.int p1), .val (.int p2), .val (.int (0 : Int32)), .val (.int (0 : Int32)), .unset, .unset, .unset, .unset] [])) (fun t k => XS.istoreN X0.here hx rfl (hb hby at_23) rfl (l' := #[.val (.int p1), .val (.int p2), .val (.int (0 : Int32)), .val (.int (0 : Int32)), .unset, .unset, .unset, .unset]) rfl k) ?_
      refine own_go (B := s₁.setTop (mkF m 25 #[.val (.int p1), .val (.int p2), .val (.int (0 : Int32)), .val (.int (0 : Int32)), .unset, .unset, .unset, .unset] [(.int (0 : Int32))])) (fun t k => XS.iloadN X0.here hx rfl (hb hby at_24) rfl k) ?_
      obtain ⟨_, _, ⟨T15, L15, k15, n15⟩, -, X15, ⟨Lc15, hQ15, l15, y15, z15⟩, st15⟩ := Jvm.LawKit.callS X0 hx (y := (⟨"com/example/interleave/interleave/engine/LockModeConflictsWithPinLaw", "pick", "(Z)Lcom/example/interleave/interleave/engine/LockMode;"⟩ : MethodName)) hown (mvT hZ (hw _ (List.mem_of_getElem? (i := 0) rfl))) (mvT hZ (hw _ (List.mem_of_getElem? (i := 1) rfl))) (mvT hZ (hw _ (List.mem_of_getElem? (i := 2) rfl))) (mvT hZ (hw _ (List.mem_of_getElem? (i := 3) rfl))) (by decide) (backOf (W := 0) (own_rm_pick l Z a0 hw [] (0 : Int32) w_SHARED w_EXCLUSIVE w_SHARED h0 n0 O0 S_SHARED S_EXCLUSIVE (by simp)) hZ (hw _ (List.mem_of_getElem? (i := 3) rfl)) (hw _ (List.mem_of_getElem? (i := 2) rfl)) (by decide) (by decide)) (g := (mkF m 25 #[.val (.int p1), .val (.int p2), .val (.int (0 : Int32)), .val (.int (0 : Int32)), .unset, .unset, .unset, .unset] [(.int (0 : Int32))])) rfl (by rw [hml]; rfl) (argsL := [(.int (0 : Int32))]) (rest := []) (lenOf own_pd_0 rfl) rfl (by show 2 * 0 + _ ≤ _; exact Nat.le_of_eq rfl) (hb hby at_25) (fun _ _ => ⟨rfl, e0, (by decide : 0 + 0 ≤ _), (by decide : 0 + 0 ≤ _)⟩)
      dsimp only [Pt.U, Pt.locs, Pt.cells, Pt.slots] at X15 l15 y15 z15 st15 hQ15
      subst l15 y15 z15
      obtain ⟨rfl, N15q, eh15⟩ := hQ15
      have N15 := Fr.app N0 N15q
      refine own_go (B := T15.setTop (mkF m 28 #[.val (.int p1), .val (.int p2), .val (.int (0 : Int32)), .val (.int (0 : Int32)), .unset, .unset, .unset, .unset] [(.ref w_SHARED)])) (fun t k => st15 _ k) ?_
      refine own_go (B := T15.setTop (mkF m 30 #[.val (.int p1), .val (.int p2), .val (.int (0 : Int32)), .val (.int (0 : Int32)), .val (.ref w_SHARED), .unset, .unset, .unset] [])) (fun t k => XS.astore X15.here hx rfl (hb hby at_28) rfl rfl (l' := #[.val (.int p1), .val (.int p2), .val (.int (0 : Int32)), .val (.int (0 : Int32)), .val (.ref w_SHARED), .unset, .unset, .unset]) rfl k) ?_
      refine own_go (B := T15.setTop (mkF m 31 #[.val (.int p1), .val (.int p2), .val (.int (0 : Int32)), .val (.int (0 : Int32)), .val (.ref w_SHARED), .unset, .unset, .unset] [(.int (0 : Int32))])) (fun t k => XS.iloadN X15.here hx rfl (hb hby at_30) rfl k) ?_
      obtain ⟨_, _, ⟨T16, L16, k16, n16⟩, -, X16, ⟨Lc16, hQ16, l16, y16, z16⟩, st16⟩ := Jvm.LawKit.callS X15 hx (y := (⟨"com/example/interleave/interleave/engine/LockModeConflictsWithPinLaw", "pick", "(Z)Lcom/example/interleave/interleave/engine/LockMode;"⟩ : MethodName)) hown (mvT hZ (hw _ (List.mem_of_getElem? (i := 0) rfl))) (mvT hZ (hw _ (List.mem_of_getElem? (i := 1) rfl))) (mvT hZ (hw _ (List.mem_of_getElem? (i := 2) rfl))) (mvT hZ (hw _ (List.mem_of_getElem? (i := 3) rfl))) (by decide) (backOf (W := 0) (own_rm_pick l Z a0 hw [] (0 : Int32) w_SHARED w_EXCLUSIVE w_SHARED h0 n0 O0 S_SHARED S_EXCLUSIVE (by simp)) hZ (hw _ (List.mem_of_getElem? (i := 3) rfl)) (hw _ (List.mem_of_getElem? (i := 2) rfl)) (by decide) (by decide)) (g := (mkF m 31 #[.val (.int p1), .val (.int p2), .val (.int (0 : Int32)), .val (.int (0 : Int32)), .val (.ref w_SHARED), .unset, .unset, .unset] [(.int (0 : Int32))])) rfl (by rw [hml]; rfl) (argsL := [(.int (0 : Int32))]) (rest := []) (lenOf own_pd_0 rfl) rfl (by show 2 * 0 + _ ≤ _; exact Nat.le_of_eq rfl) (hb hby at_31) (fun _ _ => ⟨rfl, eh15, (by decide : 0 + 0 ≤ _), (by decide : 0 + 0 ≤ _)⟩)
      dsimp only [Pt.U, Pt.locs, Pt.cells, Pt.slots] at X16 l16 y16 z16 st16 hQ16
      subst l16 y16 z16
      obtain ⟨rfl, N16q, eh16⟩ := hQ16
      have N16 := Fr.app N15 N16q
      refine own_go (B := T16.setTop (mkF m 34 #[.val (.int p1), .val (.int p2), .val (.int (0 : Int32)), .val (.int (0 : Int32)), .val (.ref w_SHARED), .unset, .unset, .unset] [(.ref w_SHARED)])) (fun t k => st16 _ k) ?_
      refine own_go (B := T16.setTop (mkF m 36 #[.val (.int p1), .val (.int p2), .val (.int (0 : Int32)), .val (.int (0 : Int32)), .val (.ref w_SHARED), .val (.ref w_SHARED), .unset, .unset] [])) (fun t k => XS.astore X16.here hx rfl (hb hby at_34) rfl rfl (l' := #[.val (.int p1), .val (.int p2), .val (.int (0 : Int32)), .val (.int (0 : Int32)), .val (.ref w_SHARED), .val (.ref w_SHARED), .unset, .unset]) rfl k) ?_
      refine own_go (B := T16.setTop (mkF m 37 #[.val (.int p1), .val (.int p2), .val (.int (0 : Int32)), .val (.int (0 : Int32)), .val (.ref w_SHARED), .val (.ref w_SHARED), .unset, .unset] [(.int (0 : Int32))])) (fun t k => XS.iloadN X16.here hx rfl (hb hby at_36) rfl k) ?_
      refine own_go (B := T16.setTop (mkF m 40 #[.val (.int p1), .val (.int p2), .val (.int (0 : Int32)), .val (.int (0 : Int32)), .val (.ref w_SHARED), .val (.ref w_SHARED), .unset, .unset] [])) (fun t k => XS.ifNo X16.here hx rfl (hb hby at_37) rfl ((if0 _ _).trans (teq (by decide : (0 : Int32) = (0 : Int32))).2) k) ?_
      refine own_go (B := T16.setTop (mkF m 41 #[.val (.int p1), .val (.int p2), .val (.int (0 : Int32)), .val (.int (0 : Int32)), .val (.ref w_SHARED), .val (.ref w_SHARED), .unset, .unset] [(.int (0 : Int32))])) (fun t k => XS.iloadN X16.here hx rfl (hb hby at_40) rfl k) ?_
      refine own_go (B := T16.setTop (mkF m 44 #[.val (.int p1), .val (.int p2), .val (.int (0 : Int32)), .val (.int (0 : Int32)), .val (.ref w_SHARED), .val (.ref w_SHARED), .unset, .unset] [])) (fun t k => XS.ifNo X16.here hx rfl (hb hby at_41) rfl ((if0 _ _).trans (teq (by decide : (0 : Int32) = (0 : Int32))).2) k) ?_
      refine own_go (B := T16.setTop (mkF m 45 #[.val (.int p1), .val (.int p2), .val (.int (0 : Int32)), .val (.int (0 : Int32)), .val (.ref w_SHARED), .val (.ref w_SHARED), .unset, .unset] [(.int (1 : Int32))])) (fun t k => XS.iconst X16.here hx rfl (hb hby at_44) k) ?_
      refine own_go (B := T16.setTop (mkF m 49 #[.val (.int p1), .val (.int p2), .val (.int (0 : Int32)), .val (.int (0 : Int32)), .val (.ref w_SHARED), .val (.ref w_SHARED), .unset, .unset] [(.int (1 : Int32))])) (fun t k => XS.goto X16.here hx rfl (pc0 := 45) (pc' := 49) rfl (hb hby at_45) (by decide) (by decide) k) ?_
      refine own_go (B := T16.setTop (mkF m 51 #[.val (.int p1), .val (.int p2), .val (.int (0 : Int32)), .val (.int (0 : Int32)), .val (.ref w_SHARED), .val (.ref w_SHARED), .val (.int (1 : Int32)), .unset] [])) (fun t k => XS.istore X16.here hx rfl (hb hby at_49) rfl (l' := #[.val (.int p1), .val (.int p2), .val (.int (0 : Int32)), .val (.int (0 : Int32)), .val (.ref w_SHARED), .val (.ref w_SHARED), .val (.int (1 : Int32)), .unset]) rfl k) ?_
      refine own_go (B := T16.setTop (mkF m 53 #[.val (.int p1), .val (.int p2), .val (.int (0 : Int32)), .val (.int (0 : Int32)), .val (.ref w_SHARED), .val (.ref w_SHARED), .val (.int (1 : Int32)), .unset] [(.int (1 : Int32))])) (fun t k => XS.iload X16.here hx rfl (hb hby at_51) rfl k) ?_
      refine own_go (B := T16.setTop (mkF m 60 #[.val (.int p1), .val (.int p2), .val (.int (0 : Int32)), .val (.int (0 : Int32)), .val (.ref w_SHARED), .val (.ref w_SHARED), .val (.int (1 : Int32)), .unset] [])) (fun t k => XS.ifYes X16.here hx rfl (pc0 := 53) (pc' := 60) rfl (hb hby at_53) rfl ((if0 _ _).trans (feq (by decide : ¬ ((1 : Int32) = (0 : Int32)))).2) (by decide) (by decide) k) ?_
      refine own_go (B := T16.setTop (mkF m 61 #[.val (.int p1), .val (.int p2), .val (.int (0 : Int32)), .val (.int (0 : Int32)), .val (.ref w_SHARED), .val (.ref w_SHARED), .val (.int (1 : Int32)), .unset] [(.int (0 : Int32))])) (fun t k => XS.iconst X16.here hx rfl (hb hby at_60) k) ?_
      refine own_go (B := T16.setTop (mkF m 63 #[.val (.int p1), .val (.int p2), .val (.int (0 : Int32)), .val (.int (0 : Int32)), .val (.ref w_SHARED), .val (.ref w_SHARED), .val (.int (1 : Int32)), .val (.int (0 : Int32))] [])) (fun t k => XS.istore X16.here hx rfl (hb hby at_61) rfl (l' := #[.val (.int p1), .val (.int p2), .val (.int (0 : Int32)), .val (.int (0 : Int32)), .val (.ref w_SHARED), .val (.ref w_SHARED), .val (.int (1 : Int32)), .val (.int (0 : Int32))]) rfl k) ?_
      refine own_go (B := T16.setTop (mkF m 65 #[.val (.int p1), .val (.int p2), .val (.int (0 : Int32)), .val (.int (0 : Int32)), .val (.ref w_SHARED), .val (.ref w_SHARED), .val (.int (1 : Int32)), .val (.int (0 : Int32))] [(.ref w_SHARED)])) (fun t k => XS.aload X16.here hx rfl (hb hby at_63) rfl rfl k) ?_
      refine own_go (B := T16.setTop (mkF m 67 #[.val (.int p1), .val (.int p2), .val (.int (0 : Int32)), .val (.int (0 : Int32)), .val (.ref w_SHARED), .val (.ref w_SHARED), .val (.int (1 : Int32)), .val (.int (0 : Int32))] [(.ref w_SHARED), (.ref w_SHARED)])) (fun t k => XS.aload X16.here hx rfl (hb hby at_65) rfl rfl k) ?_
      obtain ⟨cq20, kq20, q20a, q20b, q20c⟩ := isOf hZ eh16 (E_SHARED.ext O0.2)
      obtain ⟨_, _, ⟨T20, L20, k20, n20⟩, -, X20, ⟨Lc20, hQ20, l20, y20, z20⟩, st20⟩ := X16.virtualBack hx (y := (⟨"com/example/interleave/interleave/engine/LockMode", "conflictsWith", "(Lcom/example/interleave/interleave/engine/LockMode;)Z"⟩ : MethodName)) (z := (⟨"com/example/interleave/interleave/engine/LockMode", "conflictsWith", "(Lcom/example/interleave/interleave/engine/LockMode;)Z"⟩ : MethodName)) hown (mvT hZ (hw _ (List.mem_of_getElem? (i := 9) rfl))) (mvT hZ (hw _ (List.mem_of_getElem? (i := 10) rfl))) (notFace_of_selects (args := #[]) (mvT hZ (hw _ (List.mem_of_getElem? (i := 12) rfl)))) (mvT hZ (hw _ (List.mem_of_getElem? (i := 12) rfl))) (mvT hZ (hw _ (List.mem_of_getElem? (i := 11) rfl))) (by decide) (backOf (W := 0) (own_rm_conf l Z a0 hw [] w_SHARED w_SHARED w_EXCLUSIVE (0 : Int32) h0 n0 O0 S_EXCLUSIVE (by simp [hne])) hZ (hw _ (List.mem_of_getElem? (i := 13) rfl)) (hw _ (List.mem_of_getElem? (i := 5) rfl)) (by decide) (by decide)) q20a q20c (g := (mkF m 67 #[.val (.int p1), .val (.int p2), .val (.int (0 : Int32)), .val (.int (0 : Int32)), .val (.ref w_SHARED), .val (.ref w_SHARED), .val (.int (1 : Int32)), .val (.int (0 : Int32))] [(.ref w_SHARED), (.ref w_SHARED)])) rfl (by rw [hml]; rfl) (Steps.refl _) (argsL := [(.ref w_SHARED)]) (rest := []) (lenOf own_pd_1 rfl) rfl (by show 2 * 0 + _ ≤ _; exact Nat.le_of_eq rfl) (hb hby at_67) (fun _ _ => ⟨rfl, eh16, (by decide : 0 + 0 ≤ _), (by decide : 0 + 0 ≤ _)⟩)
      dsimp only [Pt.U, Pt.locs, Pt.cells, Pt.slots] at X20 l20 y20 z20 st20 hQ20
      subst l20 y20 z20
      obtain ⟨rfl, N20q, eh20⟩ := hQ20
      have N20 := Fr.app N16 N20q
      refine own_go (B := T20.setTop (mkF m 70 #[.val (.int p1), .val (.int p2), .val (.int (0 : Int32)), .val (.int (0 : Int32)), .val (.ref w_SHARED), .val (.ref w_SHARED), .val (.int (1 : Int32)), .val (.int (0 : Int32))] [(.int (0 : Int32))])) (fun t k => st20.trans k) ?_
      refine own_go (B := T20.setTop (mkF m 72 #[.val (.int p1), .val (.int p2), .val (.int (0 : Int32)), .val (.int (0 : Int32)), .val (.ref w_SHARED), .val (.ref w_SHARED), .val (.int (1 : Int32)), .val (.int (0 : Int32))] [(.int (0 : Int32)), (.int (0 : Int32))])) (fun t k => XS.iload X20.here hx rfl (hb hby at_70) rfl k) ?_
      refine own_go (B := T20.setTop (mkF m 75 #[.val (.int p1), .val (.int p2), .val (.int (0 : Int32)), .val (.int (0 : Int32)), .val (.ref w_SHARED), .val (.ref w_SHARED), .val (.int (1 : Int32)), .val (.int (0 : Int32))] [])) (fun t k => XS.icmpNo X20.here hx rfl (hb hby at_72) rfl (teq (by decide : (0 : Int32) = (0 : Int32))).2 k) ?_
      refine own_go (B := T20.setTop (mkF m 77 #[.val (.int p1), .val (.int p2), .val (.int (0 : Int32)), .val (.int (0 : Int32)), .val (.ref w_SHARED), .val (.ref w_SHARED), .val (.int (1 : Int32)), .val (.int (0 : Int32))] [(.ref w_SHARED)])) (fun t k => XS.aload X20.here hx rfl (hb hby at_75) rfl rfl k) ?_
      refine own_go (B := T20.setTop (mkF m 79 #[.val (.int p1), .val (.int p2), .val (.int (0 : Int32)), .val (.int (0 : Int32)), .val (.ref w_SHARED), .val (.ref w_SHARED), .val (.int (1 : Int32)), .val (.int (0 : Int32))] [(.ref w_SHARED), (.ref w_SHARED)])) (fun t k => XS.aload X20.here hx rfl (hb hby at_77) rfl rfl k) ?_
      obtain ⟨cq22, kq22, q22a, q22b, q22c⟩ := isOf hZ eh20 (E_SHARED.ext O0.2)
      obtain ⟨_, _, ⟨T22, L22, k22, n22⟩, -, X22, ⟨Lc22, hQ22, l22, y22, z22⟩, st22⟩ := X20.virtualBack hx (y := (⟨"com/example/interleave/interleave/engine/LockMode", "conflictsWith", "(Lcom/example/interleave/interleave/engine/LockMode;)Z"⟩ : MethodName)) (z := (⟨"com/example/interleave/interleave/engine/LockMode", "conflictsWith", "(Lcom/example/interleave/interleave/engine/LockMode;)Z"⟩ : MethodName)) hown (mvT hZ (hw _ (List.mem_of_getElem? (i := 9) rfl))) (mvT hZ (hw _ (List.mem_of_getElem? (i := 10) rfl))) (notFace_of_selects (args := #[]) (mvT hZ (hw _ (List.mem_of_getElem? (i := 12) rfl)))) (mvT hZ (hw _ (List.mem_of_getElem? (i := 12) rfl))) (mvT hZ (hw _ (List.mem_of_getElem? (i := 11) rfl))) (by decide) (backOf (W := 0) (own_rm_conf l Z a0 hw [] w_SHARED w_SHARED w_EXCLUSIVE (0 : Int32) h0 n0 O0 S_EXCLUSIVE (by simp [hne])) hZ (hw _ (List.mem_of_getElem? (i := 13) rfl)) (hw _ (List.mem_of_getElem? (i := 5) rfl)) (by decide) (by decide)) q22a q22c (g := (mkF m 79 #[.val (.int p1), .val (.int p2), .val (.int (0 : Int32)), .val (.int (0 : Int32)), .val (.ref w_SHARED), .val (.ref w_SHARED), .val (.int (1 : Int32)), .val (.int (0 : Int32))] [(.ref w_SHARED), (.ref w_SHARED)])) rfl (by rw [hml]; rfl) (Steps.refl _) (argsL := [(.ref w_SHARED)]) (rest := []) (lenOf own_pd_1 rfl) rfl (by show 2 * 0 + _ ≤ _; exact Nat.le_of_eq rfl) (hb hby at_79) (fun _ _ => ⟨rfl, eh20, (by decide : 0 + 0 ≤ _), (by decide : 0 + 0 ≤ _)⟩)
      dsimp only [Pt.U, Pt.locs, Pt.cells, Pt.slots] at X22 l22 y22 z22 st22 hQ22
      subst l22 y22 z22
      obtain ⟨rfl, N22q, eh22⟩ := hQ22
      have N22 := Fr.app N20 N22q
      refine own_go (B := T22.setTop (mkF m 82 #[.val (.int p1), .val (.int p2), .val (.int (0 : Int32)), .val (.int (0 : Int32)), .val (.ref w_SHARED), .val (.ref w_SHARED), .val (.int (1 : Int32)), .val (.int (0 : Int32))] [(.int (0 : Int32))])) (fun t k => st22.trans k) ?_
      refine own_go (B := T22.setTop (mkF m 84 #[.val (.int p1), .val (.int p2), .val (.int (0 : Int32)), .val (.int (0 : Int32)), .val (.ref w_SHARED), .val (.ref w_SHARED), .val (.int (1 : Int32)), .val (.int (0 : Int32))] [(.int (0 : Int32)), (.int (0 : Int32))])) (fun t k => XS.iload X22.here hx rfl (hb hby at_82) rfl k) ?_
      refine own_go (B := T22.setTop (mkF m 87 #[.val (.int p1), .val (.int p2), .val (.int (0 : Int32)), .val (.int (0 : Int32)), .val (.ref w_SHARED), .val (.ref w_SHARED), .val (.int (1 : Int32)), .val (.int (0 : Int32))] [])) (fun t k => XS.icmpNo X22.here hx rfl (hb hby at_84) rfl (teq (by decide : (0 : Int32) = (0 : Int32))).2 k) ?_
      refine own_go (B := T22.setTop (mkF m 88 #[.val (.int p1), .val (.int p2), .val (.int (0 : Int32)), .val (.int (0 : Int32)), .val (.ref w_SHARED), .val (.ref w_SHARED), .val (.int (1 : Int32)), .val (.int (0 : Int32))] [(.int (1 : Int32))])) (fun t k => XS.iconst X22.here hx rfl (hb hby at_87) k) ?_
      refine own_go (B := T22.setTop (mkF m 92 #[.val (.int p1), .val (.int p2), .val (.int (0 : Int32)), .val (.int (0 : Int32)), .val (.ref w_SHARED), .val (.ref w_SHARED), .val (.int (1 : Int32)), .val (.int (0 : Int32))] [(.int (1 : Int32))])) (fun t k => XS.goto X22.here hx rfl (pc0 := 88) (pc' := 92) rfl (hb hby at_88) (by decide) (by decide) k) ?_
      obtain ⟨fs, hr, hrun, hended, hW, hsame⟩ := X22.leave (v := some (.int (1 : Int32))) (fun h => by rw [Bd.returns] at h; cases h)
      refine ⟨_, _, retN X22 hx (t := .boolean) Bd.returns (by simp) (hb hby at_92) hr, hK _ _ ⟨hrun, hended, _, _, rfl, ?_, ⟨_, rfl⟩, hW, hsame.mono (by decide) (by decide)⟩⟩
      show own_Q_law Z p1 p2 w_SHARED w_EXCLUSIVE h0 n0 _ T22.heap _
      rw [eh22]
      exact ⟨rfl, N22⟩
    · refine own_go (B := s₁.setTop (mkF m 18 #[.val (.int p1), .val (.int p2), .val (.int (0 : Int32)), .unset, .unset, .unset, .unset, .unset] [])) (fun t k => XS.ifNo X0.here hx rfl (hb hby at_15) rfl ((if0 _ _).trans (feq hc15_14).1) k) ?_
      refine own_go (B := s₁.setTop (mkF m 19 #[.val (.int p1), .val (.int p2), .val (.int (0 : Int32)), .unset, .unset, .unset, .unset, .unset] [(.int (1 : Int32))])) (fun t k => XS.iconst X0.here hx rfl (hb hby at_18) k) ?_
      refine own_go (B := s₁.setTop (mkF m 23 #[.val (.int p1), .val (.int p2), .val (.int (0 : Int32)), .unset, .unset, .unset, .unset, .unset] [(.int (1 : Int32))])) (fun t k => XS.goto X0.here hx rfl (pc0 := 19) (pc' := 23) rfl (hb hby at_19) (by decide) (by decide) k) ?_
      refine own_go (B := s₁.setTop (mkF m 24 #[.val (.int p1), .val (.int p2), .val (.int (0 : Int32)), .val (.int (1 : Int32)), .unset, .unset, .unset, .unset] [])) (fun t k => XS.istoreN X0.here hx rfl (hb hby at_23) rfl (l' := #[.val (.int p1), .val (.int p2), .val (.int (0 : Int32)), .val (.int (1 : Int32)), .unset, .unset, .unset, .unset]) rfl k) ?_
      refine own_go (B := s₁.setTop (mkF m 25 #[.val (.int p1), .val (.int p2), .val (.int (0 : Int32)), .val (.int (1 : Int32)), .unset, .unset, .unset, .unset] [(.int (0 : Int32))])) (fun t k => XS.iloadN X0.here hx rfl (hb hby at_24) rfl k) ?_
      obtain ⟨_, _, ⟨T25, L25, k25, n25⟩, -, X25, ⟨Lc25, hQ25, l25, y25, z25⟩, st25⟩ := Jvm.LawKit.callS X0 hx (y := (⟨"com/example/interleave/interleave/engine/LockModeConflictsWithPinLaw", "pick", "(Z)Lcom/example/interleave/interleave/engine/LockMode;"⟩ : MethodName)) hown (mvT hZ (hw _ (List.mem_of_getElem? (i := 0) rfl))) (mvT hZ (hw _ (List.mem_of_getElem? (i := 1) rfl))) (mvT hZ (hw _ (List.mem_of_getElem? (i := 2) rfl))) (mvT hZ (hw _ (List.mem_of_getElem? (i := 3) rfl))) (by decide) (backOf (W := 0) (own_rm_pick l Z a0 hw [] (0 : Int32) w_SHARED w_EXCLUSIVE w_SHARED h0 n0 O0 S_SHARED S_EXCLUSIVE (by simp)) hZ (hw _ (List.mem_of_getElem? (i := 3) rfl)) (hw _ (List.mem_of_getElem? (i := 2) rfl)) (by decide) (by decide)) (g := (mkF m 25 #[.val (.int p1), .val (.int p2), .val (.int (0 : Int32)), .val (.int (1 : Int32)), .unset, .unset, .unset, .unset] [(.int (0 : Int32))])) rfl (by rw [hml]; rfl) (argsL := [(.int (0 : Int32))]) (rest := []) (lenOf own_pd_0 rfl) rfl (by show 2 * 0 + _ ≤ _; exact Nat.le_of_eq rfl) (hb hby at_25) (fun _ _ => ⟨rfl, e0, (by decide : 0 + 0 ≤ _), (by decide : 0 + 0 ≤ _)⟩)
      dsimp only [Pt.U, Pt.locs, Pt.cells, Pt.slots] at X25 l25 y25 z25 st25 hQ25
      subst l25 y25 z25
      obtain ⟨rfl, N25q, eh25⟩ := hQ25
      have N25 := Fr.app N0 N25q
      refine own_go (B := T25.setTop (mkF m 28 #[.val (.int p1), .val (.int p2), .val (.int (0 : Int32)), .val (.int (1 : Int32)), .unset, .unset, .unset, .unset] [(.ref w_SHARED)])) (fun t k => st25 _ k) ?_
      refine own_go (B := T25.setTop (mkF m 30 #[.val (.int p1), .val (.int p2), .val (.int (0 : Int32)), .val (.int (1 : Int32)), .val (.ref w_SHARED), .unset, .unset, .unset] [])) (fun t k => XS.astore X25.here hx rfl (hb hby at_28) rfl rfl (l' := #[.val (.int p1), .val (.int p2), .val (.int (0 : Int32)), .val (.int (1 : Int32)), .val (.ref w_SHARED), .unset, .unset, .unset]) rfl k) ?_
      refine own_go (B := T25.setTop (mkF m 31 #[.val (.int p1), .val (.int p2), .val (.int (0 : Int32)), .val (.int (1 : Int32)), .val (.ref w_SHARED), .unset, .unset, .unset] [(.int (1 : Int32))])) (fun t k => XS.iloadN X25.here hx rfl (hb hby at_30) rfl k) ?_
      obtain ⟨_, _, ⟨T26, L26, k26, n26⟩, -, X26, ⟨Lc26, hQ26, l26, y26, z26⟩, st26⟩ := Jvm.LawKit.callS X25 hx (y := (⟨"com/example/interleave/interleave/engine/LockModeConflictsWithPinLaw", "pick", "(Z)Lcom/example/interleave/interleave/engine/LockMode;"⟩ : MethodName)) hown (mvT hZ (hw _ (List.mem_of_getElem? (i := 0) rfl))) (mvT hZ (hw _ (List.mem_of_getElem? (i := 1) rfl))) (mvT hZ (hw _ (List.mem_of_getElem? (i := 2) rfl))) (mvT hZ (hw _ (List.mem_of_getElem? (i := 3) rfl))) (by decide) (backOf (W := 0) (own_rm_pick l Z a0 hw [] (1 : Int32) w_SHARED w_EXCLUSIVE w_EXCLUSIVE h0 n0 O0 S_SHARED S_EXCLUSIVE (by simp)) hZ (hw _ (List.mem_of_getElem? (i := 3) rfl)) (hw _ (List.mem_of_getElem? (i := 2) rfl)) (by decide) (by decide)) (g := (mkF m 31 #[.val (.int p1), .val (.int p2), .val (.int (0 : Int32)), .val (.int (1 : Int32)), .val (.ref w_SHARED), .unset, .unset, .unset] [(.int (1 : Int32))])) rfl (by rw [hml]; rfl) (argsL := [(.int (1 : Int32))]) (rest := []) (lenOf own_pd_0 rfl) rfl (by show 2 * 0 + _ ≤ _; exact Nat.le_of_eq rfl) (hb hby at_31) (fun _ _ => ⟨rfl, eh25, (by decide : 0 + 0 ≤ _), (by decide : 0 + 0 ≤ _)⟩)
      dsimp only [Pt.U, Pt.locs, Pt.cells, Pt.slots] at X26 l26 y26 z26 st26 hQ26
      subst l26 y26 z26
      obtain ⟨rfl, N26q, eh26⟩ := hQ26
      have N26 := Fr.app N25 N26q
      refine own_go (B := T26.setTop (mkF m 34 #[.val (.int p1), .val (.int p2), .val (.int (0 : Int32)), .val (.int (1 : Int32)), .val (.ref w_SHARED), .unset, .unset, .unset] [(.ref w_EXCLUSIVE)])) (fun t k => st26 _ k) ?_
      refine own_go (B := T26.setTop (mkF m 36 #[.val (.int p1), .val (.int p2), .val (.int (0 : Int32)), .val (.int (1 : Int32)), .val (.ref w_SHARED), .val (.ref w_EXCLUSIVE), .unset, .unset] [])) (fun t k => XS.astore X26.here hx rfl (hb hby at_34) rfl rfl (l' := #[.val (.int p1), .val (.int p2), .val (.int (0 : Int32)), .val (.int (1 : Int32)), .val (.ref w_SHARED), .val (.ref w_EXCLUSIVE), .unset, .unset]) rfl k) ?_
      refine own_go (B := T26.setTop (mkF m 37 #[.val (.int p1), .val (.int p2), .val (.int (0 : Int32)), .val (.int (1 : Int32)), .val (.ref w_SHARED), .val (.ref w_EXCLUSIVE), .unset, .unset] [(.int (0 : Int32))])) (fun t k => XS.iloadN X26.here hx rfl (hb hby at_36) rfl k) ?_
      refine own_go (B := T26.setTop (mkF m 40 #[.val (.int p1), .val (.int p2), .val (.int (0 : Int32)), .val (.int (1 : Int32)), .val (.ref w_SHARED), .val (.ref w_EXCLUSIVE), .unset, .unset] [])) (fun t k => XS.ifNo X26.here hx rfl (hb hby at_37) rfl ((if0 _ _).trans (teq (by decide : (0 : Int32) = (0 : Int32))).2) k) ?_
      refine own_go (B := T26.setTop (mkF m 41 #[.val (.int p1), .val (.int p2), .val (.int (0 : Int32)), .val (.int (1 : Int32)), .val (.ref w_SHARED), .val (.ref w_EXCLUSIVE), .unset, .unset] [(.int (1 : Int32))])) (fun t k => XS.iloadN X26.here hx rfl (hb hby at_40) rfl k) ?_
      refine own_go (B := T26.setTop (mkF m 48 #[.val (.int p1), .val (.int p2), .val (.int (0 : Int32)), .val (.int (1 : Int32)), .val (.ref w_SHARED), .val (.ref w_EXCLUSIVE), .unset, .unset] [])) (fun t k => XS.ifYes X26.here hx rfl (pc0 := 41) (pc' := 48) rfl (hb hby at_41) rfl ((if0 _ _).trans (feq (by decide : ¬ ((1 : Int32) = (0 : Int32)))).2) (by decide) (by decide) k) ?_
      refine own_go (B := T26.setTop (mkF m 49 #[.val (.int p1), .val (.int p2), .val (.int (0 : Int32)), .val (.int (1 : Int32)), .val (.ref w_SHARED), .val (.ref w_EXCLUSIVE), .unset, .unset] [(.int (0 : Int32))])) (fun t k => XS.iconst X26.here hx rfl (hb hby at_48) k) ?_
      refine own_go (B := T26.setTop (mkF m 51 #[.val (.int p1), .val (.int p2), .val (.int (0 : Int32)), .val (.int (1 : Int32)), .val (.ref w_SHARED), .val (.ref w_EXCLUSIVE), .val (.int (0 : Int32)), .unset] [])) (fun t k => XS.istore X26.here hx rfl (hb hby at_49) rfl (l' := #[.val (.int p1), .val (.int p2), .val (.int (0 : Int32)), .val (.int (1 : Int32)), .val (.ref w_SHARED), .val (.ref w_EXCLUSIVE), .val (.int (0 : Int32)), .unset]) rfl k) ?_
      refine own_go (B := T26.setTop (mkF m 53 #[.val (.int p1), .val (.int p2), .val (.int (0 : Int32)), .val (.int (1 : Int32)), .val (.ref w_SHARED), .val (.ref w_EXCLUSIVE), .val (.int (0 : Int32)), .unset] [(.int (0 : Int32))])) (fun t k => XS.iload X26.here hx rfl (hb hby at_51) rfl k) ?_
      refine own_go (B := T26.setTop (mkF m 56 #[.val (.int p1), .val (.int p2), .val (.int (0 : Int32)), .val (.int (1 : Int32)), .val (.ref w_SHARED), .val (.ref w_EXCLUSIVE), .val (.int (0 : Int32)), .unset] [])) (fun t k => XS.ifNo X26.here hx rfl (hb hby at_53) rfl ((if0 _ _).trans (teq (by decide : (0 : Int32) = (0 : Int32))).2) k) ?_
      refine own_go (B := T26.setTop (mkF m 57 #[.val (.int p1), .val (.int p2), .val (.int (0 : Int32)), .val (.int (1 : Int32)), .val (.ref w_SHARED), .val (.ref w_EXCLUSIVE), .val (.int (0 : Int32)), .unset] [(.int (1 : Int32))])) (fun t k => XS.iconst X26.here hx rfl (hb hby at_56) k) ?_
      refine own_go (B := T26.setTop (mkF m 61 #[.val (.int p1), .val (.int p2), .val (.int (0 : Int32)), .val (.int (1 : Int32)), .val (.ref w_SHARED), .val (.ref w_EXCLUSIVE), .val (.int (0 : Int32)), .unset] [(.int (1 : Int32))])) (fun t k => XS.goto X26.here hx rfl (pc0 := 57) (pc' := 61) rfl (hb hby at_57) (by decide) (by decide) k) ?_
      refine own_go (B := T26.setTop (mkF m 63 #[.val (.int p1), .val (.int p2), .val (.int (0 : Int32)), .val (.int (1 : Int32)), .val (.ref w_SHARED), .val (.ref w_EXCLUSIVE), .val (.int (0 : Int32)), .val (.int (1 : Int32))] [])) (fun t k => XS.istore X26.here hx rfl (hb hby at_61) rfl (l' := #[.val (.int p1), .val (.int p2), .val (.int (0 : Int32)), .val (.int (1 : Int32)), .val (.ref w_SHARED), .val (.ref w_EXCLUSIVE), .val (.int (0 : Int32)), .val (.int (1 : Int32))]) rfl k) ?_
      refine own_go (B := T26.setTop (mkF m 65 #[.val (.int p1), .val (.int p2), .val (.int (0 : Int32)), .val (.int (1 : Int32)), .val (.ref w_SHARED), .val (.ref w_EXCLUSIVE), .val (.int (0 : Int32)), .val (.int (1 : Int32))] [(.ref w_SHARED)])) (fun t k => XS.aload X26.here hx rfl (hb hby at_63) rfl rfl k) ?_
      refine own_go (B := T26.setTop (mkF m 67 #[.val (.int p1), .val (.int p2), .val (.int (0 : Int32)), .val (.int (1 : Int32)), .val (.ref w_SHARED), .val (.ref w_EXCLUSIVE), .val (.int (0 : Int32)), .val (.int (1 : Int32))] [(.ref w_EXCLUSIVE), (.ref w_SHARED)])) (fun t k => XS.aload X26.here hx rfl (hb hby at_65) rfl rfl k) ?_
      obtain ⟨cq30, kq30, q30a, q30b, q30c⟩ := isOf hZ eh26 (E_SHARED.ext O0.2)
      obtain ⟨_, _, ⟨T30, L30, k30, n30⟩, -, X30, ⟨Lc30, hQ30, l30, y30, z30⟩, st30⟩ := X26.virtualBack hx (y := (⟨"com/example/interleave/interleave/engine/LockMode", "conflictsWith", "(Lcom/example/interleave/interleave/engine/LockMode;)Z"⟩ : MethodName)) (z := (⟨"com/example/interleave/interleave/engine/LockMode", "conflictsWith", "(Lcom/example/interleave/interleave/engine/LockMode;)Z"⟩ : MethodName)) hown (mvT hZ (hw _ (List.mem_of_getElem? (i := 9) rfl))) (mvT hZ (hw _ (List.mem_of_getElem? (i := 10) rfl))) (notFace_of_selects (args := #[]) (mvT hZ (hw _ (List.mem_of_getElem? (i := 12) rfl)))) (mvT hZ (hw _ (List.mem_of_getElem? (i := 12) rfl))) (mvT hZ (hw _ (List.mem_of_getElem? (i := 11) rfl))) (by decide) (backOf (W := 0) (own_rm_conf l Z a0 hw [] w_SHARED w_EXCLUSIVE w_EXCLUSIVE (1 : Int32) h0 n0 O0 S_EXCLUSIVE (by simp [hne])) hZ (hw _ (List.mem_of_getElem? (i := 13) rfl)) (hw _ (List.mem_of_getElem? (i := 5) rfl)) (by decide) (by decide)) q30a q30c (g := (mkF m 67 #[.val (.int p1), .val (.int p2), .val (.int (0 : Int32)), .val (.int (1 : Int32)), .val (.ref w_SHARED), .val (.ref w_EXCLUSIVE), .val (.int (0 : Int32)), .val (.int (1 : Int32))] [(.ref w_EXCLUSIVE), (.ref w_SHARED)])) rfl (by rw [hml]; rfl) (Steps.refl _) (argsL := [(.ref w_EXCLUSIVE)]) (rest := []) (lenOf own_pd_1 rfl) rfl (by show 2 * 0 + _ ≤ _; exact Nat.le_of_eq rfl) (hb hby at_67) (fun _ _ => ⟨rfl, eh26, (by decide : 0 + 0 ≤ _), (by decide : 0 + 0 ≤ _)⟩)
      dsimp only [Pt.U, Pt.locs, Pt.cells, Pt.slots] at X30 l30 y30 z30 st30 hQ30
      subst l30 y30 z30
      obtain ⟨rfl, N30q, eh30⟩ := hQ30
      have N30 := Fr.app N26 N30q
      refine own_go (B := T30.setTop (mkF m 70 #[.val (.int p1), .val (.int p2), .val (.int (0 : Int32)), .val (.int (1 : Int32)), .val (.ref w_SHARED), .val (.ref w_EXCLUSIVE), .val (.int (0 : Int32)), .val (.int (1 : Int32))] [(.int (1 : Int32))])) (fun t k => st30.trans k) ?_
      refine own_go (B := T30.setTop (mkF m 72 #[.val (.int p1), .val (.int p2), .val (.int (0 : Int32)), .val (.int (1 : Int32)), .val (.ref w_SHARED), .val (.ref w_EXCLUSIVE), .val (.int (0 : Int32)), .val (.int (1 : Int32))] [(.int (1 : Int32)), (.int (1 : Int32))])) (fun t k => XS.iload X30.here hx rfl (hb hby at_70) rfl k) ?_
      refine own_go (B := T30.setTop (mkF m 75 #[.val (.int p1), .val (.int p2), .val (.int (0 : Int32)), .val (.int (1 : Int32)), .val (.ref w_SHARED), .val (.ref w_EXCLUSIVE), .val (.int (0 : Int32)), .val (.int (1 : Int32))] [])) (fun t k => XS.icmpNo X30.here hx rfl (hb hby at_72) rfl (teq (by decide : (1 : Int32) = (1 : Int32))).2 k) ?_
      refine own_go (B := T30.setTop (mkF m 77 #[.val (.int p1), .val (.int p2), .val (.int (0 : Int32)), .val (.int (1 : Int32)), .val (.ref w_SHARED), .val (.ref w_EXCLUSIVE), .val (.int (0 : Int32)), .val (.int (1 : Int32))] [(.ref w_EXCLUSIVE)])) (fun t k => XS.aload X30.here hx rfl (hb hby at_75) rfl rfl k) ?_
      refine own_go (B := T30.setTop (mkF m 79 #[.val (.int p1), .val (.int p2), .val (.int (0 : Int32)), .val (.int (1 : Int32)), .val (.ref w_SHARED), .val (.ref w_EXCLUSIVE), .val (.int (0 : Int32)), .val (.int (1 : Int32))] [(.ref w_SHARED), (.ref w_EXCLUSIVE)])) (fun t k => XS.aload X30.here hx rfl (hb hby at_77) rfl rfl k) ?_
      obtain ⟨cq32, kq32, q32a, q32b, q32c⟩ := isOf hZ eh30 (E_EXCLUSIVE.ext O0.2)
      obtain ⟨_, _, ⟨T32, L32, k32, n32⟩, -, X32, ⟨Lc32, hQ32, l32, y32, z32⟩, st32⟩ := X30.virtualBack hx (y := (⟨"com/example/interleave/interleave/engine/LockMode", "conflictsWith", "(Lcom/example/interleave/interleave/engine/LockMode;)Z"⟩ : MethodName)) (z := (⟨"com/example/interleave/interleave/engine/LockMode", "conflictsWith", "(Lcom/example/interleave/interleave/engine/LockMode;)Z"⟩ : MethodName)) hown (mvT hZ (hw _ (List.mem_of_getElem? (i := 9) rfl))) (mvT hZ (hw _ (List.mem_of_getElem? (i := 10) rfl))) (notFace_of_selects (args := #[]) (mvT hZ (hw _ (List.mem_of_getElem? (i := 12) rfl)))) (mvT hZ (hw _ (List.mem_of_getElem? (i := 12) rfl))) (mvT hZ (hw _ (List.mem_of_getElem? (i := 11) rfl))) (by decide) (backOf (W := 0) (own_rm_conf l Z a0 hw [] w_EXCLUSIVE w_SHARED w_EXCLUSIVE (1 : Int32) h0 n0 O0 S_EXCLUSIVE (by simp [hne])) hZ (hw _ (List.mem_of_getElem? (i := 13) rfl)) (hw _ (List.mem_of_getElem? (i := 5) rfl)) (by decide) (by decide)) q32a q32c (g := (mkF m 79 #[.val (.int p1), .val (.int p2), .val (.int (0 : Int32)), .val (.int (1 : Int32)), .val (.ref w_SHARED), .val (.ref w_EXCLUSIVE), .val (.int (0 : Int32)), .val (.int (1 : Int32))] [(.ref w_SHARED), (.ref w_EXCLUSIVE)])) rfl (by rw [hml]; rfl) (Steps.refl _) (argsL := [(.ref w_SHARED)]) (rest := []) (lenOf own_pd_1 rfl) rfl (by show 2 * 0 + _ ≤ _; exact Nat.le_of_eq rfl) (hb hby at_79) (fun _ _ => ⟨rfl, eh30, (by decide : 0 + 0 ≤ _), (by decide : 0 + 0 ≤ _)⟩)
      dsimp only [Pt.U, Pt.locs, Pt.cells, Pt.slots] at X32 l32 y32 z32 st32 hQ32
      subst l32 y32 z32
      obtain ⟨rfl, N32q, eh32⟩ := hQ32
      have N32 := Fr.app N30 N32q
      refine own_go (B := T32.setTop (mkF m 82 #[.val (.int p1), .val (.int p2), .val (.int (0 : Int32)), .val (.int (1 : Int32)), .val (.ref w_SHARED), .val (.ref w_EXCLUSIVE), .val (.int (0 : Int32)), .val (.int (1 : Int32))] [(.int (1 : Int32))])) (fun t k => st32.trans k) ?_
      refine own_go (B := T32.setTop (mkF m 84 #[.val (.int p1), .val (.int p2), .val (.int (0 : Int32)), .val (.int (1 : Int32)), .val (.ref w_SHARED), .val (.ref w_EXCLUSIVE), .val (.int (0 : Int32)), .val (.int (1 : Int32))] [(.int (1 : Int32)), (.int (1 : Int32))])) (fun t k => XS.iload X32.here hx rfl (hb hby at_82) rfl k) ?_
      refine own_go (B := T32.setTop (mkF m 87 #[.val (.int p1), .val (.int p2), .val (.int (0 : Int32)), .val (.int (1 : Int32)), .val (.ref w_SHARED), .val (.ref w_EXCLUSIVE), .val (.int (0 : Int32)), .val (.int (1 : Int32))] [])) (fun t k => XS.icmpNo X32.here hx rfl (hb hby at_84) rfl (teq (by decide : (1 : Int32) = (1 : Int32))).2 k) ?_
      refine own_go (B := T32.setTop (mkF m 88 #[.val (.int p1), .val (.int p2), .val (.int (0 : Int32)), .val (.int (1 : Int32)), .val (.ref w_SHARED), .val (.ref w_EXCLUSIVE), .val (.int (0 : Int32)), .val (.int (1 : Int32))] [(.int (1 : Int32))])) (fun t k => XS.iconst X32.here hx rfl (hb hby at_87) k) ?_
      refine own_go (B := T32.setTop (mkF m 92 #[.val (.int p1), .val (.int p2), .val (.int (0 : Int32)), .val (.int (1 : Int32)), .val (.ref w_SHARED), .val (.ref w_EXCLUSIVE), .val (.int (0 : Int32)), .val (.int (1 : Int32))] [(.int (1 : Int32))])) (fun t k => XS.goto X32.here hx rfl (pc0 := 88) (pc' := 92) rfl (hb hby at_88) (by decide) (by decide) k) ?_
      obtain ⟨fs, hr, hrun, hended, hW, hsame⟩ := X32.leave (v := some (.int (1 : Int32))) (fun h => by rw [Bd.returns] at h; cases h)
      refine ⟨_, _, retN X32 hx (t := .boolean) Bd.returns (by simp) (hb hby at_92) hr, hK _ _ ⟨hrun, hended, _, _, rfl, ?_, ⟨_, rfl⟩, hW, hsame.mono (by decide) (by decide)⟩⟩
      show own_Q_law Z p1 p2 w_SHARED w_EXCLUSIVE h0 n0 _ T32.heap _
      rw [eh32]
      exact ⟨rfl, N32⟩
  · refine own_go (B := s₁.setTop (mkF m 6 #[.val (.int p1), .val (.int p2), .unset, .unset, .unset, .unset, .unset, .unset] [])) (fun t k => XS.ifNo X0.here hx rfl (hb hby at_3) rfl ((if0 _ _).trans (feq hc3_13).1) k) ?_
    refine own_go (B := s₁.setTop (mkF m 7 #[.val (.int p1), .val (.int p2), .unset, .unset, .unset, .unset, .unset, .unset] [(.int (1 : Int32))])) (fun t k => XS.iconst X0.here hx rfl (hb hby at_6) k) ?_
    refine own_go (B := s₁.setTop (mkF m 11 #[.val (.int p1), .val (.int p2), .unset, .unset, .unset, .unset, .unset, .unset] [(.int (1 : Int32))])) (fun t k => XS.goto X0.here hx rfl (pc0 := 7) (pc' := 11) rfl (hb hby at_7) (by decide) (by decide) k) ?_
    refine own_go (B := s₁.setTop (mkF m 12 #[.val (.int p1), .val (.int p2), .val (.int (1 : Int32)), .unset, .unset, .unset, .unset, .unset] [])) (fun t k => XS.istoreN X0.here hx rfl (hb hby at_11) rfl (l' := #[.val (.int p1), .val (.int p2), .val (.int (1 : Int32)), .unset, .unset, .unset, .unset, .unset]) rfl k) ?_
    refine own_go (B := s₁.setTop (mkF m 13 #[.val (.int p1), .val (.int p2), .val (.int (1 : Int32)), .unset, .unset, .unset, .unset, .unset] [(.int p2)])) (fun t k => XS.iloadN X0.here hx rfl (hb hby at_12) rfl k) ?_
    refine own_go (B := s₁.setTop (mkF m 14 #[.val (.int p1), .val (.int p2), .val (.int (1 : Int32)), .unset, .unset, .unset, .unset, .unset] [(.int (1 : Int32)), (.int p2)])) (fun t k => XS.iconst X0.here hx rfl (hb hby at_13) k) ?_
    refine own_go (B := s₁.setTop (mkF m 15 #[.val (.int p1), .val (.int p2), .val (.int (1 : Int32)), .unset, .unset, .unset, .unset, .unset] [(.int (p2 &&& (1 : Int32)))])) (fun t k => XS.iand X0.here hx rfl (hb hby at_14) rfl k) ?_
    by_cases hc15_35 : (p2 &&& (1 : Int32)) = (0 : Int32)
    · refine own_go (B := s₁.setTop (mkF m 22 #[.val (.int p1), .val (.int p2), .val (.int (1 : Int32)), .unset, .unset, .unset, .unset, .unset] [])) (fun t k => XS.ifYes X0.here hx rfl (pc0 := 15) (pc' := 22) rfl (hb hby at_15) rfl ((if0 _ _).trans (teq hc15_35).1) (by decide) (by decide) k) ?_
      refine own_go (B := s₁.setTop (mkF m 23 #[.val (.int p1), .val (.int p2), .val (.int (1 : Int32)), .unset, .unset, .unset, .unset, .unset] [(.int (0 : Int32))])) (fun t k => XS.iconst X0.here hx rfl (hb hby at_22) k) ?_
      refine own_go (B := s₁.setTop (mkF m 24 #[.val (.int p1), .val (.int p2), .val (.int (1 : Int32)), .val (.int (0 : Int32)), .unset, .unset, .unset, .unset] [])) (fun t k => XS.istoreN X0.here hx rfl (hb hby at_23) rfl (l' := #[.val (.int p1), .val (.int p2), .val (.int (1 : Int32)), .val (.int (0 : Int32)), .unset, .unset, .unset, .unset]) rfl k) ?_
      refine own_go (B := s₁.setTop (mkF m 25 #[.val (.int p1), .val (.int p2), .val (.int (1 : Int32)), .val (.int (0 : Int32)), .unset, .unset, .unset, .unset] [(.int (1 : Int32))])) (fun t k => XS.iloadN X0.here hx rfl (hb hby at_24) rfl k) ?_
      obtain ⟨_, _, ⟨T36, L36, k36, n36⟩, -, X36, ⟨Lc36, hQ36, l36, y36, z36⟩, st36⟩ := Jvm.LawKit.callS X0 hx (y := (⟨"com/example/interleave/interleave/engine/LockModeConflictsWithPinLaw", "pick", "(Z)Lcom/example/interleave/interleave/engine/LockMode;"⟩ : MethodName)) hown (mvT hZ (hw _ (List.mem_of_getElem? (i := 0) rfl))) (mvT hZ (hw _ (List.mem_of_getElem? (i := 1) rfl))) (mvT hZ (hw _ (List.mem_of_getElem? (i := 2) rfl))) (mvT hZ (hw _ (List.mem_of_getElem? (i := 3) rfl))) (by decide) (backOf (W := 0) (own_rm_pick l Z a0 hw [] (1 : Int32) w_SHARED w_EXCLUSIVE w_EXCLUSIVE h0 n0 O0 S_SHARED S_EXCLUSIVE (by simp)) hZ (hw _ (List.mem_of_getElem? (i := 3) rfl)) (hw _ (List.mem_of_getElem? (i := 2) rfl)) (by decide) (by decide)) (g := (mkF m 25 #[.val (.int p1), .val (.int p2), .val (.int (1 : Int32)), .val (.int (0 : Int32)), .unset, .unset, .unset, .unset] [(.int (1 : Int32))])) rfl (by rw [hml]; rfl) (argsL := [(.int (1 : Int32))]) (rest := []) (lenOf own_pd_0 rfl) rfl (by show 2 * 0 + _ ≤ _; exact Nat.le_of_eq rfl) (hb hby at_25) (fun _ _ => ⟨rfl, e0, (by decide : 0 + 0 ≤ _), (by decide : 0 + 0 ≤ _)⟩)
      dsimp only [Pt.U, Pt.locs, Pt.cells, Pt.slots] at X36 l36 y36 z36 st36 hQ36
      subst l36 y36 z36
      obtain ⟨rfl, N36q, eh36⟩ := hQ36
      have N36 := Fr.app N0 N36q
      refine own_go (B := T36.setTop (mkF m 28 #[.val (.int p1), .val (.int p2), .val (.int (1 : Int32)), .val (.int (0 : Int32)), .unset, .unset, .unset, .unset] [(.ref w_EXCLUSIVE)])) (fun t k => st36 _ k) ?_
      refine own_go (B := T36.setTop (mkF m 30 #[.val (.int p1), .val (.int p2), .val (.int (1 : Int32)), .val (.int (0 : Int32)), .val (.ref w_EXCLUSIVE), .unset, .unset, .unset] [])) (fun t k => XS.astore X36.here hx rfl (hb hby at_28) rfl rfl (l' := #[.val (.int p1), .val (.int p2), .val (.int (1 : Int32)), .val (.int (0 : Int32)), .val (.ref w_EXCLUSIVE), .unset, .unset, .unset]) rfl k) ?_
      refine own_go (B := T36.setTop (mkF m 31 #[.val (.int p1), .val (.int p2), .val (.int (1 : Int32)), .val (.int (0 : Int32)), .val (.ref w_EXCLUSIVE), .unset, .unset, .unset] [(.int (0 : Int32))])) (fun t k => XS.iloadN X36.here hx rfl (hb hby at_30) rfl k) ?_
      obtain ⟨_, _, ⟨T37, L37, k37, n37⟩, -, X37, ⟨Lc37, hQ37, l37, y37, z37⟩, st37⟩ := Jvm.LawKit.callS X36 hx (y := (⟨"com/example/interleave/interleave/engine/LockModeConflictsWithPinLaw", "pick", "(Z)Lcom/example/interleave/interleave/engine/LockMode;"⟩ : MethodName)) hown (mvT hZ (hw _ (List.mem_of_getElem? (i := 0) rfl))) (mvT hZ (hw _ (List.mem_of_getElem? (i := 1) rfl))) (mvT hZ (hw _ (List.mem_of_getElem? (i := 2) rfl))) (mvT hZ (hw _ (List.mem_of_getElem? (i := 3) rfl))) (by decide) (backOf (W := 0) (own_rm_pick l Z a0 hw [] (0 : Int32) w_SHARED w_EXCLUSIVE w_SHARED h0 n0 O0 S_SHARED S_EXCLUSIVE (by simp)) hZ (hw _ (List.mem_of_getElem? (i := 3) rfl)) (hw _ (List.mem_of_getElem? (i := 2) rfl)) (by decide) (by decide)) (g := (mkF m 31 #[.val (.int p1), .val (.int p2), .val (.int (1 : Int32)), .val (.int (0 : Int32)), .val (.ref w_EXCLUSIVE), .unset, .unset, .unset] [(.int (0 : Int32))])) rfl (by rw [hml]; rfl) (argsL := [(.int (0 : Int32))]) (rest := []) (lenOf own_pd_0 rfl) rfl (by show 2 * 0 + _ ≤ _; exact Nat.le_of_eq rfl) (hb hby at_31) (fun _ _ => ⟨rfl, eh36, (by decide : 0 + 0 ≤ _), (by decide : 0 + 0 ≤ _)⟩)
      dsimp only [Pt.U, Pt.locs, Pt.cells, Pt.slots] at X37 l37 y37 z37 st37 hQ37
      subst l37 y37 z37
      obtain ⟨rfl, N37q, eh37⟩ := hQ37
      have N37 := Fr.app N36 N37q
      refine own_go (B := T37.setTop (mkF m 34 #[.val (.int p1), .val (.int p2), .val (.int (1 : Int32)), .val (.int (0 : Int32)), .val (.ref w_EXCLUSIVE), .unset, .unset, .unset] [(.ref w_SHARED)])) (fun t k => st37 _ k) ?_
      refine own_go (B := T37.setTop (mkF m 36 #[.val (.int p1), .val (.int p2), .val (.int (1 : Int32)), .val (.int (0 : Int32)), .val (.ref w_EXCLUSIVE), .val (.ref w_SHARED), .unset, .unset] [])) (fun t k => XS.astore X37.here hx rfl (hb hby at_34) rfl rfl (l' := #[.val (.int p1), .val (.int p2), .val (.int (1 : Int32)), .val (.int (0 : Int32)), .val (.ref w_EXCLUSIVE), .val (.ref w_SHARED), .unset, .unset]) rfl k) ?_
      refine own_go (B := T37.setTop (mkF m 37 #[.val (.int p1), .val (.int p2), .val (.int (1 : Int32)), .val (.int (0 : Int32)), .val (.ref w_EXCLUSIVE), .val (.ref w_SHARED), .unset, .unset] [(.int (1 : Int32))])) (fun t k => XS.iloadN X37.here hx rfl (hb hby at_36) rfl k) ?_
      refine own_go (B := T37.setTop (mkF m 48 #[.val (.int p1), .val (.int p2), .val (.int (1 : Int32)), .val (.int (0 : Int32)), .val (.ref w_EXCLUSIVE), .val (.ref w_SHARED), .unset, .unset] [])) (fun t k => XS.ifYes X37.here hx rfl (pc0 := 37) (pc' := 48) rfl (hb hby at_37) rfl ((if0 _ _).trans (feq (by decide : ¬ ((1 : Int32) = (0 : Int32)))).2) (by decide) (by decide) k) ?_
      refine own_go (B := T37.setTop (mkF m 49 #[.val (.int p1), .val (.int p2), .val (.int (1 : Int32)), .val (.int (0 : Int32)), .val (.ref w_EXCLUSIVE), .val (.ref w_SHARED), .unset, .unset] [(.int (0 : Int32))])) (fun t k => XS.iconst X37.here hx rfl (hb hby at_48) k) ?_
      refine own_go (B := T37.setTop (mkF m 51 #[.val (.int p1), .val (.int p2), .val (.int (1 : Int32)), .val (.int (0 : Int32)), .val (.ref w_EXCLUSIVE), .val (.ref w_SHARED), .val (.int (0 : Int32)), .unset] [])) (fun t k => XS.istore X37.here hx rfl (hb hby at_49) rfl (l' := #[.val (.int p1), .val (.int p2), .val (.int (1 : Int32)), .val (.int (0 : Int32)), .val (.ref w_EXCLUSIVE), .val (.ref w_SHARED), .val (.int (0 : Int32)), .unset]) rfl k) ?_
      refine own_go (B := T37.setTop (mkF m 53 #[.val (.int p1), .val (.int p2), .val (.int (1 : Int32)), .val (.int (0 : Int32)), .val (.ref w_EXCLUSIVE), .val (.ref w_SHARED), .val (.int (0 : Int32)), .unset] [(.int (0 : Int32))])) (fun t k => XS.iload X37.here hx rfl (hb hby at_51) rfl k) ?_
      refine own_go (B := T37.setTop (mkF m 56 #[.val (.int p1), .val (.int p2), .val (.int (1 : Int32)), .val (.int (0 : Int32)), .val (.ref w_EXCLUSIVE), .val (.ref w_SHARED), .val (.int (0 : Int32)), .unset] [])) (fun t k => XS.ifNo X37.here hx rfl (hb hby at_53) rfl ((if0 _ _).trans (teq (by decide : (0 : Int32) = (0 : Int32))).2) k) ?_
      refine own_go (B := T37.setTop (mkF m 57 #[.val (.int p1), .val (.int p2), .val (.int (1 : Int32)), .val (.int (0 : Int32)), .val (.ref w_EXCLUSIVE), .val (.ref w_SHARED), .val (.int (0 : Int32)), .unset] [(.int (1 : Int32))])) (fun t k => XS.iconst X37.here hx rfl (hb hby at_56) k) ?_
      refine own_go (B := T37.setTop (mkF m 61 #[.val (.int p1), .val (.int p2), .val (.int (1 : Int32)), .val (.int (0 : Int32)), .val (.ref w_EXCLUSIVE), .val (.ref w_SHARED), .val (.int (0 : Int32)), .unset] [(.int (1 : Int32))])) (fun t k => XS.goto X37.here hx rfl (pc0 := 57) (pc' := 61) rfl (hb hby at_57) (by decide) (by decide) k) ?_
      refine own_go (B := T37.setTop (mkF m 63 #[.val (.int p1), .val (.int p2), .val (.int (1 : Int32)), .val (.int (0 : Int32)), .val (.ref w_EXCLUSIVE), .val (.ref w_SHARED), .val (.int (0 : Int32)), .val (.int (1 : Int32))] [])) (fun t k => XS.istore X37.here hx rfl (hb hby at_61) rfl (l' := #[.val (.int p1), .val (.int p2), .val (.int (1 : Int32)), .val (.int (0 : Int32)), .val (.ref w_EXCLUSIVE), .val (.ref w_SHARED), .val (.int (0 : Int32)), .val (.int (1 : Int32))]) rfl k) ?_
      refine own_go (B := T37.setTop (mkF m 65 #[.val (.int p1), .val (.int p2), .val (.int (1 : Int32)), .val (.int (0 : Int32)), .val (.ref w_EXCLUSIVE), .val (.ref w_SHARED), .val (.int (0 : Int32)), .val (.int (1 : Int32))] [(.ref w_EXCLUSIVE)])) (fun t k => XS.aload X37.here hx rfl (hb hby at_63) rfl rfl k) ?_
      refine own_go (B := T37.setTop (mkF m 67 #[.val (.int p1), .val (.int p2), .val (.int (1 : Int32)), .val (.int (0 : Int32)), .val (.ref w_EXCLUSIVE), .val (.ref w_SHARED), .val (.int (0 : Int32)), .val (.int (1 : Int32))] [(.ref w_SHARED), (.ref w_EXCLUSIVE)])) (fun t k => XS.aload X37.here hx rfl (hb hby at_65) rfl rfl k) ?_
      obtain ⟨cq40, kq40, q40a, q40b, q40c⟩ := isOf hZ eh37 (E_EXCLUSIVE.ext O0.2)
      obtain ⟨_, _, ⟨T40, L40, k40, n40⟩, -, X40, ⟨Lc40, hQ40, l40, y40, z40⟩, st40⟩ := X37.virtualBack hx (y := (⟨"com/example/interleave/interleave/engine/LockMode", "conflictsWith", "(Lcom/example/interleave/interleave/engine/LockMode;)Z"⟩ : MethodName)) (z := (⟨"com/example/interleave/interleave/engine/LockMode", "conflictsWith", "(Lcom/example/interleave/interleave/engine/LockMode;)Z"⟩ : MethodName)) hown (mvT hZ (hw _ (List.mem_of_getElem? (i := 9) rfl))) (mvT hZ (hw _ (List.mem_of_getElem? (i := 10) rfl))) (notFace_of_selects (args := #[]) (mvT hZ (hw _ (List.mem_of_getElem? (i := 12) rfl)))) (mvT hZ (hw _ (List.mem_of_getElem? (i := 12) rfl))) (mvT hZ (hw _ (List.mem_of_getElem? (i := 11) rfl))) (by decide) (backOf (W := 0) (own_rm_conf l Z a0 hw [] w_EXCLUSIVE w_SHARED w_EXCLUSIVE (1 : Int32) h0 n0 O0 S_EXCLUSIVE (by simp [hne])) hZ (hw _ (List.mem_of_getElem? (i := 13) rfl)) (hw _ (List.mem_of_getElem? (i := 5) rfl)) (by decide) (by decide)) q40a q40c (g := (mkF m 67 #[.val (.int p1), .val (.int p2), .val (.int (1 : Int32)), .val (.int (0 : Int32)), .val (.ref w_EXCLUSIVE), .val (.ref w_SHARED), .val (.int (0 : Int32)), .val (.int (1 : Int32))] [(.ref w_SHARED), (.ref w_EXCLUSIVE)])) rfl (by rw [hml]; rfl) (Steps.refl _) (argsL := [(.ref w_SHARED)]) (rest := []) (lenOf own_pd_1 rfl) rfl (by show 2 * 0 + _ ≤ _; exact Nat.le_of_eq rfl) (hb hby at_67) (fun _ _ => ⟨rfl, eh37, (by decide : 0 + 0 ≤ _), (by decide : 0 + 0 ≤ _)⟩)
      dsimp only [Pt.U, Pt.locs, Pt.cells, Pt.slots] at X40 l40 y40 z40 st40 hQ40
      subst l40 y40 z40
      obtain ⟨rfl, N40q, eh40⟩ := hQ40
      have N40 := Fr.app N37 N40q
      refine own_go (B := T40.setTop (mkF m 70 #[.val (.int p1), .val (.int p2), .val (.int (1 : Int32)), .val (.int (0 : Int32)), .val (.ref w_EXCLUSIVE), .val (.ref w_SHARED), .val (.int (0 : Int32)), .val (.int (1 : Int32))] [(.int (1 : Int32))])) (fun t k => st40.trans k) ?_
      refine own_go (B := T40.setTop (mkF m 72 #[.val (.int p1), .val (.int p2), .val (.int (1 : Int32)), .val (.int (0 : Int32)), .val (.ref w_EXCLUSIVE), .val (.ref w_SHARED), .val (.int (0 : Int32)), .val (.int (1 : Int32))] [(.int (1 : Int32)), (.int (1 : Int32))])) (fun t k => XS.iload X40.here hx rfl (hb hby at_70) rfl k) ?_
      refine own_go (B := T40.setTop (mkF m 75 #[.val (.int p1), .val (.int p2), .val (.int (1 : Int32)), .val (.int (0 : Int32)), .val (.ref w_EXCLUSIVE), .val (.ref w_SHARED), .val (.int (0 : Int32)), .val (.int (1 : Int32))] [])) (fun t k => XS.icmpNo X40.here hx rfl (hb hby at_72) rfl (teq (by decide : (1 : Int32) = (1 : Int32))).2 k) ?_
      refine own_go (B := T40.setTop (mkF m 77 #[.val (.int p1), .val (.int p2), .val (.int (1 : Int32)), .val (.int (0 : Int32)), .val (.ref w_EXCLUSIVE), .val (.ref w_SHARED), .val (.int (0 : Int32)), .val (.int (1 : Int32))] [(.ref w_SHARED)])) (fun t k => XS.aload X40.here hx rfl (hb hby at_75) rfl rfl k) ?_
      refine own_go (B := T40.setTop (mkF m 79 #[.val (.int p1), .val (.int p2), .val (.int (1 : Int32)), .val (.int (0 : Int32)), .val (.ref w_EXCLUSIVE), .val (.ref w_SHARED), .val (.int (0 : Int32)), .val (.int (1 : Int32))] [(.ref w_EXCLUSIVE), (.ref w_SHARED)])) (fun t k => XS.aload X40.here hx rfl (hb hby at_77) rfl rfl k) ?_
      obtain ⟨cq42, kq42, q42a, q42b, q42c⟩ := isOf hZ eh40 (E_SHARED.ext O0.2)
      obtain ⟨_, _, ⟨T42, L42, k42, n42⟩, -, X42, ⟨Lc42, hQ42, l42, y42, z42⟩, st42⟩ := X40.virtualBack hx (y := (⟨"com/example/interleave/interleave/engine/LockMode", "conflictsWith", "(Lcom/example/interleave/interleave/engine/LockMode;)Z"⟩ : MethodName)) (z := (⟨"com/example/interleave/interleave/engine/LockMode", "conflictsWith", "(Lcom/example/interleave/interleave/engine/LockMode;)Z"⟩ : MethodName)) hown (mvT hZ (hw _ (List.mem_of_getElem? (i := 9) rfl))) (mvT hZ (hw _ (List.mem_of_getElem? (i := 10) rfl))) (notFace_of_selects (args := #[]) (mvT hZ (hw _ (List.mem_of_getElem? (i := 12) rfl)))) (mvT hZ (hw _ (List.mem_of_getElem? (i := 12) rfl))) (mvT hZ (hw _ (List.mem_of_getElem? (i := 11) rfl))) (by decide) (backOf (W := 0) (own_rm_conf l Z a0 hw [] w_SHARED w_EXCLUSIVE w_EXCLUSIVE (1 : Int32) h0 n0 O0 S_EXCLUSIVE (by simp [hne])) hZ (hw _ (List.mem_of_getElem? (i := 13) rfl)) (hw _ (List.mem_of_getElem? (i := 5) rfl)) (by decide) (by decide)) q42a q42c (g := (mkF m 79 #[.val (.int p1), .val (.int p2), .val (.int (1 : Int32)), .val (.int (0 : Int32)), .val (.ref w_EXCLUSIVE), .val (.ref w_SHARED), .val (.int (0 : Int32)), .val (.int (1 : Int32))] [(.ref w_EXCLUSIVE), (.ref w_SHARED)])) rfl (by rw [hml]; rfl) (Steps.refl _) (argsL := [(.ref w_EXCLUSIVE)]) (rest := []) (lenOf own_pd_1 rfl) rfl (by show 2 * 0 + _ ≤ _; exact Nat.le_of_eq rfl) (hb hby at_79) (fun _ _ => ⟨rfl, eh40, (by decide : 0 + 0 ≤ _), (by decide : 0 + 0 ≤ _)⟩)
      dsimp only [Pt.U, Pt.locs, Pt.cells, Pt.slots] at X42 l42 y42 z42 st42 hQ42
      subst l42 y42 z42
      obtain ⟨rfl, N42q, eh42⟩ := hQ42
      have N42 := Fr.app N40 N42q
      refine own_go (B := T42.setTop (mkF m 82 #[.val (.int p1), .val (.int p2), .val (.int (1 : Int32)), .val (.int (0 : Int32)), .val (.ref w_EXCLUSIVE), .val (.ref w_SHARED), .val (.int (0 : Int32)), .val (.int (1 : Int32))] [(.int (1 : Int32))])) (fun t k => st42.trans k) ?_
      refine own_go (B := T42.setTop (mkF m 84 #[.val (.int p1), .val (.int p2), .val (.int (1 : Int32)), .val (.int (0 : Int32)), .val (.ref w_EXCLUSIVE), .val (.ref w_SHARED), .val (.int (0 : Int32)), .val (.int (1 : Int32))] [(.int (1 : Int32)), (.int (1 : Int32))])) (fun t k => XS.iload X42.here hx rfl (hb hby at_82) rfl k) ?_
      refine own_go (B := T42.setTop (mkF m 87 #[.val (.int p1), .val (.int p2), .val (.int (1 : Int32)), .val (.int (0 : Int32)), .val (.ref w_EXCLUSIVE), .val (.ref w_SHARED), .val (.int (0 : Int32)), .val (.int (1 : Int32))] [])) (fun t k => XS.icmpNo X42.here hx rfl (hb hby at_84) rfl (teq (by decide : (1 : Int32) = (1 : Int32))).2 k) ?_
      refine own_go (B := T42.setTop (mkF m 88 #[.val (.int p1), .val (.int p2), .val (.int (1 : Int32)), .val (.int (0 : Int32)), .val (.ref w_EXCLUSIVE), .val (.ref w_SHARED), .val (.int (0 : Int32)), .val (.int (1 : Int32))] [(.int (1 : Int32))])) (fun t k => XS.iconst X42.here hx rfl (hb hby at_87) k) ?_
      refine own_go (B := T42.setTop (mkF m 92 #[.val (.int p1), .val (.int p2), .val (.int (1 : Int32)), .val (.int (0 : Int32)), .val (.ref w_EXCLUSIVE), .val (.ref w_SHARED), .val (.int (0 : Int32)), .val (.int (1 : Int32))] [(.int (1 : Int32))])) (fun t k => XS.goto X42.here hx rfl (pc0 := 88) (pc' := 92) rfl (hb hby at_88) (by decide) (by decide) k) ?_
      obtain ⟨fs, hr, hrun, hended, hW, hsame⟩ := X42.leave (v := some (.int (1 : Int32))) (fun h => by rw [Bd.returns] at h; cases h)
      refine ⟨_, _, retN X42 hx (t := .boolean) Bd.returns (by simp) (hb hby at_92) hr, hK _ _ ⟨hrun, hended, _, _, rfl, ?_, ⟨_, rfl⟩, hW, hsame.mono (by decide) (by decide)⟩⟩
      show own_Q_law Z p1 p2 w_SHARED w_EXCLUSIVE h0 n0 _ T42.heap _
      rw [eh42]
      exact ⟨rfl, N42⟩
    · refine own_go (B := s₁.setTop (mkF m 18 #[.val (.int p1), .val (.int p2), .val (.int (1 : Int32)), .unset, .unset, .unset, .unset, .unset] [])) (fun t k => XS.ifNo X0.here hx rfl (hb hby at_15) rfl ((if0 _ _).trans (feq hc15_35).1) k) ?_
      refine own_go (B := s₁.setTop (mkF m 19 #[.val (.int p1), .val (.int p2), .val (.int (1 : Int32)), .unset, .unset, .unset, .unset, .unset] [(.int (1 : Int32))])) (fun t k => XS.iconst X0.here hx rfl (hb hby at_18) k) ?_
      refine own_go (B := s₁.setTop (mkF m 23 #[.val (.int p1), .val (.int p2), .val (.int (1 : Int32)), .unset, .unset, .unset, .unset, .unset] [(.int (1 : Int32))])) (fun t k => XS.goto X0.here hx rfl (pc0 := 19) (pc' := 23) rfl (hb hby at_19) (by decide) (by decide) k) ?_
      refine own_go (B := s₁.setTop (mkF m 24 #[.val (.int p1), .val (.int p2), .val (.int (1 : Int32)), .val (.int (1 : Int32)), .unset, .unset, .unset, .unset] [])) (fun t k => XS.istoreN X0.here hx rfl (hb hby at_23) rfl (l' := #[.val (.int p1), .val (.int p2), .val (.int (1 : Int32)), .val (.int (1 : Int32)), .unset, .unset, .unset, .unset]) rfl k) ?_
      refine own_go (B := s₁.setTop (mkF m 25 #[.val (.int p1), .val (.int p2), .val (.int (1 : Int32)), .val (.int (1 : Int32)), .unset, .unset, .unset, .unset] [(.int (1 : Int32))])) (fun t k => XS.iloadN X0.here hx rfl (hb hby at_24) rfl k) ?_
      obtain ⟨_, _, ⟨T45, L45, k45, n45⟩, -, X45, ⟨Lc45, hQ45, l45, y45, z45⟩, st45⟩ := Jvm.LawKit.callS X0 hx (y := (⟨"com/example/interleave/interleave/engine/LockModeConflictsWithPinLaw", "pick", "(Z)Lcom/example/interleave/interleave/engine/LockMode;"⟩ : MethodName)) hown (mvT hZ (hw _ (List.mem_of_getElem? (i := 0) rfl))) (mvT hZ (hw _ (List.mem_of_getElem? (i := 1) rfl))) (mvT hZ (hw _ (List.mem_of_getElem? (i := 2) rfl))) (mvT hZ (hw _ (List.mem_of_getElem? (i := 3) rfl))) (by decide) (backOf (W := 0) (own_rm_pick l Z a0 hw [] (1 : Int32) w_SHARED w_EXCLUSIVE w_EXCLUSIVE h0 n0 O0 S_SHARED S_EXCLUSIVE (by simp)) hZ (hw _ (List.mem_of_getElem? (i := 3) rfl)) (hw _ (List.mem_of_getElem? (i := 2) rfl)) (by decide) (by decide)) (g := (mkF m 25 #[.val (.int p1), .val (.int p2), .val (.int (1 : Int32)), .val (.int (1 : Int32)), .unset, .unset, .unset, .unset] [(.int (1 : Int32))])) rfl (by rw [hml]; rfl) (argsL := [(.int (1 : Int32))]) (rest := []) (lenOf own_pd_0 rfl) rfl (by show 2 * 0 + _ ≤ _; exact Nat.le_of_eq rfl) (hb hby at_25) (fun _ _ => ⟨rfl, e0, (by decide : 0 + 0 ≤ _), (by decide : 0 + 0 ≤ _)⟩)
      dsimp only [Pt.U, Pt.locs, Pt.cells, Pt.slots] at X45 l45 y45 z45 st45 hQ45
      subst l45 y45 z45
      obtain ⟨rfl, N45q, eh45⟩ := hQ45
      have N45 := Fr.app N0 N45q
      refine own_go (B := T45.setTop (mkF m 28 #[.val (.int p1), .val (.int p2), .val (.int (1 : Int32)), .val (.int (1 : Int32)), .unset, .unset, .unset, .unset] [(.ref w_EXCLUSIVE)])) (fun t k => st45 _ k) ?_
      refine own_go (B := T45.setTop (mkF m 30 #[.val (.int p1), .val (.int p2), .val (.int (1 : Int32)), .val (.int (1 : Int32)), .val (.ref w_EXCLUSIVE), .unset, .unset, .unset] [])) (fun t k => XS.astore X45.here hx rfl (hb hby at_28) rfl rfl (l' := #[.val (.int p1), .val (.int p2), .val (.int (1 : Int32)), .val (.int (1 : Int32)), .val (.ref w_EXCLUSIVE), .unset, .unset, .unset]) rfl k) ?_
      refine own_go (B := T45.setTop (mkF m 31 #[.val (.int p1), .val (.int p2), .val (.int (1 : Int32)), .val (.int (1 : Int32)), .val (.ref w_EXCLUSIVE), .unset, .unset, .unset] [(.int (1 : Int32))])) (fun t k => XS.iloadN X45.here hx rfl (hb hby at_30) rfl k) ?_
      obtain ⟨_, _, ⟨T46, L46, k46, n46⟩, -, X46, ⟨Lc46, hQ46, l46, y46, z46⟩, st46⟩ := Jvm.LawKit.callS X45 hx (y := (⟨"com/example/interleave/interleave/engine/LockModeConflictsWithPinLaw", "pick", "(Z)Lcom/example/interleave/interleave/engine/LockMode;"⟩ : MethodName)) hown (mvT hZ (hw _ (List.mem_of_getElem? (i := 0) rfl))) (mvT hZ (hw _ (List.mem_of_getElem? (i := 1) rfl))) (mvT hZ (hw _ (List.mem_of_getElem? (i := 2) rfl))) (mvT hZ (hw _ (List.mem_of_getElem? (i := 3) rfl))) (by decide) (backOf (W := 0) (own_rm_pick l Z a0 hw [] (1 : Int32) w_SHARED w_EXCLUSIVE w_EXCLUSIVE h0 n0 O0 S_SHARED S_EXCLUSIVE (by simp)) hZ (hw _ (List.mem_of_getElem? (i := 3) rfl)) (hw _ (List.mem_of_getElem? (i := 2) rfl)) (by decide) (by decide)) (g := (mkF m 31 #[.val (.int p1), .val (.int p2), .val (.int (1 : Int32)), .val (.int (1 : Int32)), .val (.ref w_EXCLUSIVE), .unset, .unset, .unset] [(.int (1 : Int32))])) rfl (by rw [hml]; rfl) (argsL := [(.int (1 : Int32))]) (rest := []) (lenOf own_pd_0 rfl) rfl (by show 2 * 0 + _ ≤ _; exact Nat.le_of_eq rfl) (hb hby at_31) (fun _ _ => ⟨rfl, eh45, (by decide : 0 + 0 ≤ _), (by decide : 0 + 0 ≤ _)⟩)
      dsimp only [Pt.U, Pt.locs, Pt.cells, Pt.slots] at X46 l46 y46 z46 st46 hQ46
      subst l46 y46 z46
      obtain ⟨rfl, N46q, eh46⟩ := hQ46
      have N46 := Fr.app N45 N46q
      refine own_go (B := T46.setTop (mkF m 34 #[.val (.int p1), .val (.int p2), .val (.int (1 : Int32)), .val (.int (1 : Int32)), .val (.ref w_EXCLUSIVE), .unset, .unset, .unset] [(.ref w_EXCLUSIVE)])) (fun t k => st46 _ k) ?_
      refine own_go (B := T46.setTop (mkF m 36 #[.val (.int p1), .val (.int p2), .val (.int (1 : Int32)), .val (.int (1 : Int32)), .val (.ref w_EXCLUSIVE), .val (.ref w_EXCLUSIVE), .unset, .unset] [])) (fun t k => XS.astore X46.here hx rfl (hb hby at_34) rfl rfl (l' := #[.val (.int p1), .val (.int p2), .val (.int (1 : Int32)), .val (.int (1 : Int32)), .val (.ref w_EXCLUSIVE), .val (.ref w_EXCLUSIVE), .unset, .unset]) rfl k) ?_
      refine own_go (B := T46.setTop (mkF m 37 #[.val (.int p1), .val (.int p2), .val (.int (1 : Int32)), .val (.int (1 : Int32)), .val (.ref w_EXCLUSIVE), .val (.ref w_EXCLUSIVE), .unset, .unset] [(.int (1 : Int32))])) (fun t k => XS.iloadN X46.here hx rfl (hb hby at_36) rfl k) ?_
      refine own_go (B := T46.setTop (mkF m 48 #[.val (.int p1), .val (.int p2), .val (.int (1 : Int32)), .val (.int (1 : Int32)), .val (.ref w_EXCLUSIVE), .val (.ref w_EXCLUSIVE), .unset, .unset] [])) (fun t k => XS.ifYes X46.here hx rfl (pc0 := 37) (pc' := 48) rfl (hb hby at_37) rfl ((if0 _ _).trans (feq (by decide : ¬ ((1 : Int32) = (0 : Int32)))).2) (by decide) (by decide) k) ?_
      refine own_go (B := T46.setTop (mkF m 49 #[.val (.int p1), .val (.int p2), .val (.int (1 : Int32)), .val (.int (1 : Int32)), .val (.ref w_EXCLUSIVE), .val (.ref w_EXCLUSIVE), .unset, .unset] [(.int (0 : Int32))])) (fun t k => XS.iconst X46.here hx rfl (hb hby at_48) k) ?_
      refine own_go (B := T46.setTop (mkF m 51 #[.val (.int p1), .val (.int p2), .val (.int (1 : Int32)), .val (.int (1 : Int32)), .val (.ref w_EXCLUSIVE), .val (.ref w_EXCLUSIVE), .val (.int (0 : Int32)), .unset] [])) (fun t k => XS.istore X46.here hx rfl (hb hby at_49) rfl (l' := #[.val (.int p1), .val (.int p2), .val (.int (1 : Int32)), .val (.int (1 : Int32)), .val (.ref w_EXCLUSIVE), .val (.ref w_EXCLUSIVE), .val (.int (0 : Int32)), .unset]) rfl k) ?_
      refine own_go (B := T46.setTop (mkF m 53 #[.val (.int p1), .val (.int p2), .val (.int (1 : Int32)), .val (.int (1 : Int32)), .val (.ref w_EXCLUSIVE), .val (.ref w_EXCLUSIVE), .val (.int (0 : Int32)), .unset] [(.int (0 : Int32))])) (fun t k => XS.iload X46.here hx rfl (hb hby at_51) rfl k) ?_
      refine own_go (B := T46.setTop (mkF m 56 #[.val (.int p1), .val (.int p2), .val (.int (1 : Int32)), .val (.int (1 : Int32)), .val (.ref w_EXCLUSIVE), .val (.ref w_EXCLUSIVE), .val (.int (0 : Int32)), .unset] [])) (fun t k => XS.ifNo X46.here hx rfl (hb hby at_53) rfl ((if0 _ _).trans (teq (by decide : (0 : Int32) = (0 : Int32))).2) k) ?_
      refine own_go (B := T46.setTop (mkF m 57 #[.val (.int p1), .val (.int p2), .val (.int (1 : Int32)), .val (.int (1 : Int32)), .val (.ref w_EXCLUSIVE), .val (.ref w_EXCLUSIVE), .val (.int (0 : Int32)), .unset] [(.int (1 : Int32))])) (fun t k => XS.iconst X46.here hx rfl (hb hby at_56) k) ?_
      refine own_go (B := T46.setTop (mkF m 61 #[.val (.int p1), .val (.int p2), .val (.int (1 : Int32)), .val (.int (1 : Int32)), .val (.ref w_EXCLUSIVE), .val (.ref w_EXCLUSIVE), .val (.int (0 : Int32)), .unset] [(.int (1 : Int32))])) (fun t k => XS.goto X46.here hx rfl (pc0 := 57) (pc' := 61) rfl (hb hby at_57) (by decide) (by decide) k) ?_
      refine own_go (B := T46.setTop (mkF m 63 #[.val (.int p1), .val (.int p2), .val (.int (1 : Int32)), .val (.int (1 : Int32)), .val (.ref w_EXCLUSIVE), .val (.ref w_EXCLUSIVE), .val (.int (0 : Int32)), .val (.int (1 : Int32))] [])) (fun t k => XS.istore X46.here hx rfl (hb hby at_61) rfl (l' := #[.val (.int p1), .val (.int p2), .val (.int (1 : Int32)), .val (.int (1 : Int32)), .val (.ref w_EXCLUSIVE), .val (.ref w_EXCLUSIVE), .val (.int (0 : Int32)), .val (.int (1 : Int32))]) rfl k) ?_
      refine own_go (B := T46.setTop (mkF m 65 #[.val (.int p1), .val (.int p2), .val (.int (1 : Int32)), .val (.int (1 : Int32)), .val (.ref w_EXCLUSIVE), .val (.ref w_EXCLUSIVE), .val (.int (0 : Int32)), .val (.int (1 : Int32))] [(.ref w_EXCLUSIVE)])) (fun t k => XS.aload X46.here hx rfl (hb hby at_63) rfl rfl k) ?_
      refine own_go (B := T46.setTop (mkF m 67 #[.val (.int p1), .val (.int p2), .val (.int (1 : Int32)), .val (.int (1 : Int32)), .val (.ref w_EXCLUSIVE), .val (.ref w_EXCLUSIVE), .val (.int (0 : Int32)), .val (.int (1 : Int32))] [(.ref w_EXCLUSIVE), (.ref w_EXCLUSIVE)])) (fun t k => XS.aload X46.here hx rfl (hb hby at_65) rfl rfl k) ?_
      obtain ⟨cq49, kq49, q49a, q49b, q49c⟩ := isOf hZ eh46 (E_EXCLUSIVE.ext O0.2)
      obtain ⟨_, _, ⟨T49, L49, k49, n49⟩, -, X49, ⟨Lc49, hQ49, l49, y49, z49⟩, st49⟩ := X46.virtualBack hx (y := (⟨"com/example/interleave/interleave/engine/LockMode", "conflictsWith", "(Lcom/example/interleave/interleave/engine/LockMode;)Z"⟩ : MethodName)) (z := (⟨"com/example/interleave/interleave/engine/LockMode", "conflictsWith", "(Lcom/example/interleave/interleave/engine/LockMode;)Z"⟩ : MethodName)) hown (mvT hZ (hw _ (List.mem_of_getElem? (i := 9) rfl))) (mvT hZ (hw _ (List.mem_of_getElem? (i := 10) rfl))) (notFace_of_selects (args := #[]) (mvT hZ (hw _ (List.mem_of_getElem? (i := 12) rfl)))) (mvT hZ (hw _ (List.mem_of_getElem? (i := 12) rfl))) (mvT hZ (hw _ (List.mem_of_getElem? (i := 11) rfl))) (by decide) (backOf (W := 0) (own_rm_conf l Z a0 hw [] w_EXCLUSIVE w_EXCLUSIVE w_EXCLUSIVE (1 : Int32) h0 n0 O0 S_EXCLUSIVE (by simp [hne])) hZ (hw _ (List.mem_of_getElem? (i := 13) rfl)) (hw _ (List.mem_of_getElem? (i := 5) rfl)) (by decide) (by decide)) q49a q49c (g := (mkF m 67 #[.val (.int p1), .val (.int p2), .val (.int (1 : Int32)), .val (.int (1 : Int32)), .val (.ref w_EXCLUSIVE), .val (.ref w_EXCLUSIVE), .val (.int (0 : Int32)), .val (.int (1 : Int32))] [(.ref w_EXCLUSIVE), (.ref w_EXCLUSIVE)])) rfl (by rw [hml]; rfl) (Steps.refl _) (argsL := [(.ref w_EXCLUSIVE)]) (rest := []) (lenOf own_pd_1 rfl) rfl (by show 2 * 0 + _ ≤ _; exact Nat.le_of_eq rfl) (hb hby at_67) (fun _ _ => ⟨rfl, eh46, (by decide : 0 + 0 ≤ _), (by decide : 0 + 0 ≤ _)⟩)
      dsimp only [Pt.U, Pt.locs, Pt.cells, Pt.slots] at X49 l49 y49 z49 st49 hQ49
      subst l49 y49 z49
      obtain ⟨rfl, N49q, eh49⟩ := hQ49
      have N49 := Fr.app N46 N49q
      refine own_go (B := T49.setTop (mkF m 70 #[.val (.int p1), .val (.int p2), .val (.int (1 : Int32)), .val (.int (1 : Int32)), .val (.ref w_EXCLUSIVE), .val (.ref w_EXCLUSIVE), .val (.int (0 : Int32)), .val (.int (1 : Int32))] [(.int (1 : Int32))])) (fun t k => st49.trans k) ?_
      refine own_go (B := T49.setTop (mkF m 72 #[.val (.int p1), .val (.int p2), .val (.int (1 : Int32)), .val (.int (1 : Int32)), .val (.ref w_EXCLUSIVE), .val (.ref w_EXCLUSIVE), .val (.int (0 : Int32)), .val (.int (1 : Int32))] [(.int (1 : Int32)), (.int (1 : Int32))])) (fun t k => XS.iload X49.here hx rfl (hb hby at_70) rfl k) ?_
      refine own_go (B := T49.setTop (mkF m 75 #[.val (.int p1), .val (.int p2), .val (.int (1 : Int32)), .val (.int (1 : Int32)), .val (.ref w_EXCLUSIVE), .val (.ref w_EXCLUSIVE), .val (.int (0 : Int32)), .val (.int (1 : Int32))] [])) (fun t k => XS.icmpNo X49.here hx rfl (hb hby at_72) rfl (teq (by decide : (1 : Int32) = (1 : Int32))).2 k) ?_
      refine own_go (B := T49.setTop (mkF m 77 #[.val (.int p1), .val (.int p2), .val (.int (1 : Int32)), .val (.int (1 : Int32)), .val (.ref w_EXCLUSIVE), .val (.ref w_EXCLUSIVE), .val (.int (0 : Int32)), .val (.int (1 : Int32))] [(.ref w_EXCLUSIVE)])) (fun t k => XS.aload X49.here hx rfl (hb hby at_75) rfl rfl k) ?_
      refine own_go (B := T49.setTop (mkF m 79 #[.val (.int p1), .val (.int p2), .val (.int (1 : Int32)), .val (.int (1 : Int32)), .val (.ref w_EXCLUSIVE), .val (.ref w_EXCLUSIVE), .val (.int (0 : Int32)), .val (.int (1 : Int32))] [(.ref w_EXCLUSIVE), (.ref w_EXCLUSIVE)])) (fun t k => XS.aload X49.here hx rfl (hb hby at_77) rfl rfl k) ?_
      obtain ⟨cq51, kq51, q51a, q51b, q51c⟩ := isOf hZ eh49 (E_EXCLUSIVE.ext O0.2)
      obtain ⟨_, _, ⟨T51, L51, k51, n51⟩, -, X51, ⟨Lc51, hQ51, l51, y51, z51⟩, st51⟩ := X49.virtualBack hx (y := (⟨"com/example/interleave/interleave/engine/LockMode", "conflictsWith", "(Lcom/example/interleave/interleave/engine/LockMode;)Z"⟩ : MethodName)) (z := (⟨"com/example/interleave/interleave/engine/LockMode", "conflictsWith", "(Lcom/example/interleave/interleave/engine/LockMode;)Z"⟩ : MethodName)) hown (mvT hZ (hw _ (List.mem_of_getElem? (i := 9) rfl))) (mvT hZ (hw _ (List.mem_of_getElem? (i := 10) rfl))) (notFace_of_selects (args := #[]) (mvT hZ (hw _ (List.mem_of_getElem? (i := 12) rfl)))) (mvT hZ (hw _ (List.mem_of_getElem? (i := 12) rfl))) (mvT hZ (hw _ (List.mem_of_getElem? (i := 11) rfl))) (by decide) (backOf (W := 0) (own_rm_conf l Z a0 hw [] w_EXCLUSIVE w_EXCLUSIVE w_EXCLUSIVE (1 : Int32) h0 n0 O0 S_EXCLUSIVE (by simp [hne])) hZ (hw _ (List.mem_of_getElem? (i := 13) rfl)) (hw _ (List.mem_of_getElem? (i := 5) rfl)) (by decide) (by decide)) q51a q51c (g := (mkF m 79 #[.val (.int p1), .val (.int p2), .val (.int (1 : Int32)), .val (.int (1 : Int32)), .val (.ref w_EXCLUSIVE), .val (.ref w_EXCLUSIVE), .val (.int (0 : Int32)), .val (.int (1 : Int32))] [(.ref w_EXCLUSIVE), (.ref w_EXCLUSIVE)])) rfl (by rw [hml]; rfl) (Steps.refl _) (argsL := [(.ref w_EXCLUSIVE)]) (rest := []) (lenOf own_pd_1 rfl) rfl (by show 2 * 0 + _ ≤ _; exact Nat.le_of_eq rfl) (hb hby at_79) (fun _ _ => ⟨rfl, eh49, (by decide : 0 + 0 ≤ _), (by decide : 0 + 0 ≤ _)⟩)
      dsimp only [Pt.U, Pt.locs, Pt.cells, Pt.slots] at X51 l51 y51 z51 st51 hQ51
      subst l51 y51 z51
      obtain ⟨rfl, N51q, eh51⟩ := hQ51
      have N51 := Fr.app N49 N51q
      refine own_go (B := T51.setTop (mkF m 82 #[.val (.int p1), .val (.int p2), .val (.int (1 : Int32)), .val (.int (1 : Int32)), .val (.ref w_EXCLUSIVE), .val (.ref w_EXCLUSIVE), .val (.int (0 : Int32)), .val (.int (1 : Int32))] [(.int (1 : Int32))])) (fun t k => st51.trans k) ?_
      refine own_go (B := T51.setTop (mkF m 84 #[.val (.int p1), .val (.int p2), .val (.int (1 : Int32)), .val (.int (1 : Int32)), .val (.ref w_EXCLUSIVE), .val (.ref w_EXCLUSIVE), .val (.int (0 : Int32)), .val (.int (1 : Int32))] [(.int (1 : Int32)), (.int (1 : Int32))])) (fun t k => XS.iload X51.here hx rfl (hb hby at_82) rfl k) ?_
      refine own_go (B := T51.setTop (mkF m 87 #[.val (.int p1), .val (.int p2), .val (.int (1 : Int32)), .val (.int (1 : Int32)), .val (.ref w_EXCLUSIVE), .val (.ref w_EXCLUSIVE), .val (.int (0 : Int32)), .val (.int (1 : Int32))] [])) (fun t k => XS.icmpNo X51.here hx rfl (hb hby at_84) rfl (teq (by decide : (1 : Int32) = (1 : Int32))).2 k) ?_
      refine own_go (B := T51.setTop (mkF m 88 #[.val (.int p1), .val (.int p2), .val (.int (1 : Int32)), .val (.int (1 : Int32)), .val (.ref w_EXCLUSIVE), .val (.ref w_EXCLUSIVE), .val (.int (0 : Int32)), .val (.int (1 : Int32))] [(.int (1 : Int32))])) (fun t k => XS.iconst X51.here hx rfl (hb hby at_87) k) ?_
      refine own_go (B := T51.setTop (mkF m 92 #[.val (.int p1), .val (.int p2), .val (.int (1 : Int32)), .val (.int (1 : Int32)), .val (.ref w_EXCLUSIVE), .val (.ref w_EXCLUSIVE), .val (.int (0 : Int32)), .val (.int (1 : Int32))] [(.int (1 : Int32))])) (fun t k => XS.goto X51.here hx rfl (pc0 := 88) (pc' := 92) rfl (hb hby at_88) (by decide) (by decide) k) ?_
      obtain ⟨fs, hr, hrun, hended, hW, hsame⟩ := X51.leave (v := some (.int (1 : Int32))) (fun h => by rw [Bd.returns] at h; cases h)
      refine ⟨_, _, retN X51 hx (t := .boolean) Bd.returns (by simp) (hb hby at_92) hr, hK _ _ ⟨hrun, hended, _, _, rfl, ?_, ⟨_, rfl⟩, hW, hsame.mono (by decide) (by decide)⟩⟩
      show own_Q_law Z p1 p2 w_SHARED w_EXCLUSIVE h0 n0 _ T51.heap _
      rw [eh51]
      exact ⟨rfl, N51⟩
set_option maxRecDepth 65536 in
set_option maxHeartbeats 40000000 in
theorem comes_1 {Post : Tables → Env → Array Value → State → Outcome → State → Prop} (hpost : ∀ tb e args s v u, (limb_1_1.after args s (.returned v) u = true ∧ limb_1_2.after args s (.returned v) u = true ∧ True) → FrameEnd s (.returned v) u (Jvm.fieldLocs frame_1_writes args s ++ Jvm.arrayLocs frame_1_arrays args s ++ Jvm.staticLocs frame_1_statics s) 0 0 → Post tb e args s (.returned v) u) :
    ArmFor flags0 classFile x code maxLocals ret World_1 tables_1 room_1 Calls_1 rest_1 Pre_1 Post := by
  intro l hfl _ _ p e ha hc hk s m args below hf hA hF happ hP
  obtain ⟨hcalls, hrest, hpre⟩ := hP
  obtain ⟨-, -, -, hnamed, -, -, -, hat⟩ := (Spec.applies_iff hf).mp happ
  obtain ⟨hg, hn⟩ := and_e (Cond.before_iff.mp (show (Jvm.Cond.and given_1 narrow_1).before args s = true from hpre))
  obtain ⟨hga, hgb⟩ := and_e hg
  obtain ⟨hgba, hgbb⟩ := and_e hgb
  obtain ⟨v0, v1, rfl⟩ : ∃ v0 v1 : Value, args = #[v0, v1] := by
    have hs : args.size = 2 := by simpa [Cond.value, given_1] using hga
    obtain ⟨L⟩ := args
    match L, hs with
    | [v0, v1], _ => exact ⟨v0, v1, rfl⟩
  have hw := fun d (hd : d ∈ tables_1) => atoms_spec (ws := Jvm.Cond.code x code maxLocals ret :: tables_1) hat d (List.mem_cons_of_mem _ hd)
  have hfit : Fit s := fun {y c} hc i hi => by
    obtain ⟨ha, rfl⟩ := Array.getElem?_eq_some_iff.mp hc
    have q := List.all_eq_true.mp ((Array.all_eq_true_iff_forall_mem.mp hF) _ (Array.getElem_mem ha)) i (List.mem_range.mpr hi)
    simpa [Array.getElem?_eq_getElem hi] using q
  obtain ⟨p1, ep1⟩ := is_v hgba
  obtain rfl : v0 = (.int p1) := Option.some.inj ep1
  obtain ⟨p2, ep2⟩ := is_v hgbb
  obtain rfl : v1 = (.int p2) := Option.some.inj ep2
  obtain ⟨hna, hnb⟩ := and_e hn
  obtain ⟨hnba, hnbb⟩ := and_e hnb
  obtain ⟨hnbba, hnbbb⟩ := and_e hnbb
  obtain ⟨w_SHARED, ev_SHARED⟩ := exa_v hna
  have S_SHARED := Sta.start ev_SHARED (Or.inr ⟨(hw _ (List.mem_of_getElem? (i := 5) rfl)), (hw _ (List.mem_of_getElem? (i := 6) rfl))⟩)
  have E_SHARED := Exa.start ev_SHARED hna
  obtain ⟨w_EXCLUSIVE, ev_EXCLUSIVE⟩ := exa_v hnba
  have S_EXCLUSIVE := Sta.start ev_EXCLUSIVE (Or.inr ⟨(hw _ (List.mem_of_getElem? (i := 5) rfl)), (hw _ (List.mem_of_getElem? (i := 8) rfl))⟩)
  have E_EXCLUSIVE := Exa.start ev_EXCLUSIVE hnba
  have F_SHARED_ordinal := own_fldI ev_SHARED hnbba
  have F_EXCLUSIVE_ordinal := own_fldI ev_EXCLUSIVE hnbbb
  obtain ⟨n, o, h1, h2, h3, _, L, rfl, ⟨rfl, N⟩, hq⟩ := own_rm_law l s _ hw tables_1 p1 p2 w_SHARED w_EXCLUSIVE s.heap s.heap.size (Old.start s) S_SHARED E_SHARED S_EXCLUSIVE E_EXCLUSIVE F_SHARED_ordinal F_EXCLUSIVE_ordinal (Fld.ne F_SHARED_ordinal F_EXCLUSIVE_ordinal (by decide)) p e ha hc hk s m _ below hf ((Spec.applies_iff_loose hf).mp happ).1 ⟨rfl, State.Warmed39.refl s, rfl⟩ trivial
  refine ⟨n, _, h1, h2, h3, hpost _ _ _ _ _ _ ⟨Cond.after_iff.mpr rfl, Cond.after_iff.mpr (eq_i res_at (Term.int_eval (1)) rfl), trivial⟩ ⟨hq.1, hq.2.1, (hq.2.2.sift fun y hy => Or.inr (N y hy)).mono (by decide) (by decide)⟩⟩
theorem main_1_1 : Claimed_1_1 := comes_1 fun _ _ _ _ _ _ h hF => ⟨h.1, hF⟩
theorem main_1_2 : Claimed_1_2 := comes_1 fun _ _ _ _ _ _ h hF => ⟨h.2.1, hF⟩
end Jvm.Pilot.@@N@@
namespace Jvm.Pilot.@@N@@
open Jvm Jvm.ClassFile Sem Op Lib Jvm.Free Jvm.Stand Jvm.Pilot.@@N@@.Jvm.D
/-! MADE BY PROGRAM (witnessworld.py) out of the Statement's table words and the real class files: 12 classes; the members and pool entries that the words name. The judged class is class 1, her method 2. -/
namespace start1
open Jvm.ClassFile
def u (s : String) : CpInfo := .utf8 (stringToUtf16 s)
/-- a pool by its gaps: so many unusable entries, then the entry; so many at the end -/
def gap : Nat → List CpInfo → List CpInfo
  | 0, r => r
  | n + 1, r => .unusable :: gap n r
def poolList (es : List (Nat × CpInfo)) (last : Nat) : List CpInfo := es.foldr (fun e r => gap e.1 (e.2 :: r)) (gap last [])
def pool (es : List (Nat × CpInfo)) (last : Nat) : Array CpInfo := ⟨poolList es last⟩
def fileOf (pool : Array CpInfo) (this : Nat) (attrs : Array Attribute := #[]) (ms : Array MethodInfo := #[]) (fl : Nat := 33) (sup : Nat := 0) (ifs : Array Nat := #[]) (fds : Array FieldInfo := #[]) : ClassFile where
  minorVersion := 0
  majorVersion := 65
  constantPool := pool
  accessFlags := fl
  thisClass := this
  superClass := sup
  interfaces := ifs
  fields := fds
  methods := ms
  attributes := attrs
def plain (name : String) (sup : Option ClassId) : Class where
  name := name
  kind := .ordinary
  loader := none
  accessFlags := 33
  super := sup
  interfaces := #[]
  cf := none
  fields := #[]
  methods := #[]
  instanceTypes := #[]
  staticTypes := #[]
  resolved := #[]
  callSites := []
  init := .initialized
  statics := none
  mirror := none

def pool0 : Array CpInfo := pool [(5, u "<init>"), (0, u "()V"), (1, .class_ 10), (1, u "java/lang/Object")] 113

def k0m0 : Method := { name := "<init>", desc := "()V", sig := { parameters := [], returnType := none }, accessFlags := 1, code := none }
/-- java/lang/Object -/
def k0 : Class := { plain "java/lang/Object" none with
  accessFlags := 33
  interfaces := #[]
  cf := some (fileOf pool0 8 #[] #[{ accessFlags := 1, nameIndex := 5, descriptorIndex := 6, attributes := #[] }] 33 0 #[] #[])
  fields := #[]
  methods := #[k0m0]
  instanceTypes := #[]
  staticTypes := #[]
  resolved := Array.replicate 124 none
  statics := none }

def pool1 : Array CpInfo := pool [(2, .class_ 4), (1, u "java/lang/Object"), (0, u "<init>"), (0, u "()V"), (0, .fieldref 8 9), (0, .class_ 10), (0, .nameAndType 11 12), (0, u "com/example/interleave/interleave/engine/LockMode"), (0, u "EXCLUSIVE"), (0, u "Lcom/example/interleave/interleave/engine/LockMode;"), (0, .fieldref 8 14), (0, .nameAndType 15 12), (0, u "SHARED"), (0, .methodref 17 18), (0, .class_ 19), (0, .nameAndType 20 21), (0, u "com/example/interleave/interleave/engine/LockModeConflictsWithPinLaw"), (0, u "pick"), (0, u "(Z)Lcom/example/interleave/interleave/engine/LockMode;"), (0, .methodref 8 23), (0, .nameAndType 24 25), (0, u "conflictsWith"), (0, u "(Lcom/example/interleave/interleave/engine/LockMode;)Z"), (3, u "law"), (0, u "(II)Z")] 2

def k1m0 : Method := { name := "<init>", desc := "()V", sig := { parameters := [], returnType := none }, accessFlags := 1, code := none }
def k1c1 : Code := { maxStack := 1, maxLocals := 1, code := method_2_code, exceptionTable := #[], attributes := #[] }
def k1m1 : Method := { name := "pick", desc := "(Z)Lcom/example/interleave/interleave/engine/LockMode;", sig := { parameters := [.boolean], returnType := some (.object "com/example/interleave/interleave/engine/LockMode") }, accessFlags := 10, code := some k1c1 }
def k1c2 : Code := { maxStack := 2, maxLocals := 8, code := code, exceptionTable := #[], attributes := #[] }
def k1m2 : Method := { name := "law", desc := "(II)Z", sig := { parameters := [.int, .int], returnType := some .boolean }, accessFlags := 9, code := some k1c2 }
/-- com/example/interleave/interleave/engine/LockModeConflictsWithPinLaw -/
def k1 : Class := { plain "com/example/interleave/interleave/engine/LockModeConflictsWithPinLaw" (some 0) with
  accessFlags := 49
  interfaces := #[]
  cf := some (fileOf pool1 17 #[] #[{ accessFlags := 1, nameIndex := 5, descriptorIndex := 6, attributes := #[] }, { accessFlags := 10, nameIndex := 20, descriptorIndex := 21, attributes := #[] }, { accessFlags := 9, nameIndex := 29, descriptorIndex := 30, attributes := #[] }] 49 2 #[] #[])
  fields := #[]
  methods := #[k1m0, k1m1, k1m2]
  instanceTypes := #[]
  staticTypes := #[]
  resolved := Array.replicate 33 none
  statics := none }

def pool2 : Array CpInfo := pool [(1, .class_ 2), (0, u "java/lang/constant/Constable"), (0, .class_ 4), (0, u "java/lang/Object")] 6

/-- java/lang/constant/Constable -/
def k2 : Class := { plain "java/lang/constant/Constable" (some 0) with
  accessFlags := 1537
  interfaces := #[]
  cf := some (fileOf pool2 1 #[] #[] 1537 3 #[] #[])
  fields := #[]
  methods := #[]
  instanceTypes := #[]
  staticTypes := #[]
  resolved := Array.replicate 11 none
  statics := none }

def pool3 : Array CpInfo := pool [(1, .class_ 2), (0, u "java/lang/Comparable"), (0, .class_ 4), (0, u "java/lang/Object")] 7

/-- java/lang/Comparable -/
def k3 : Class := { plain "java/lang/Comparable" (some 0) with
  accessFlags := 1537
  interfaces := #[]
  cf := some (fileOf pool3 1 #[] #[] 1537 3 #[] #[])
  fields := #[]
  methods := #[]
  instanceTypes := #[]
  staticTypes := #[]
  resolved := Array.replicate 12 none
  statics := none }

def pool4 : Array CpInfo := pool [(1, .class_ 2), (0, u "java/io/Serializable"), (0, .class_ 4), (0, u "java/lang/Object")] 2

/-- java/io/Serializable -/
def k4 : Class := { plain "java/io/Serializable" (some 0) with
  accessFlags := 1537
  interfaces := #[]
  cf := some (fileOf pool4 1 #[] #[] 1537 3 #[] #[])
  fields := #[]
  methods := #[]
  instanceTypes := #[]
  staticTypes := #[]
  resolved := Array.replicate 7 none
  statics := none }

def pool5 : Array CpInfo := pool [(2, .class_ 4), (1, u "java/lang/Enum"), (0, u "name"), (0, u "Ljava/lang/String;"), (2, u "ordinal"), (0, u "I"), (1, .class_ 14), (1, u "java/lang/Object"), (4, u "hash"), (86, .class_ 108), (1, u "java/lang/Enum$EnumDesc"), (2, .class_ 112), (0, u "java/lang/constant/Constable"), (0, .class_ 114), (0, u "java/lang/Comparable"), (0, .class_ 116), (0, u "java/io/Serializable")] 87

/-- java/lang/Enum -/
def k5 : Class := { plain "java/lang/Enum" (some 0) with
  accessFlags := 1057
  interfaces := #[2, 3, 4]
  cf := some (fileOf pool5 2 #[.nestMembers #[106]] #[] 1057 12 #[111, 113, 115] #[{ accessFlags := 18, nameIndex := 5, descriptorIndex := 6, attributes := #[] }, { accessFlags := 18, nameIndex := 9, descriptorIndex := 10, attributes := #[] }, { accessFlags := 2, nameIndex := 19, descriptorIndex := 10, attributes := #[] }])
  fields := #[{ name := "name", type := (.object "java/lang/String"), accessFlags := 18, slot := 0, constantValue := 0 }, { name := "ordinal", type := .int, accessFlags := 18, slot := 1, constantValue := 0 }, { name := "hash", type := .int, accessFlags := 2, slot := 2, constantValue := 0 }]
  methods := #[]
  instanceTypes := #[(.object "java/lang/String"), .int, .int]
  staticTypes := #[]
  resolved := Array.replicate 204 none
  statics := none }

def pool6 : Array CpInfo := pool [(1, .class_ 2), (0, u "com/example/interleave/interleave/engine/LockMode"), (2, u "SHARED"), (0, u "Lcom/example/interleave/interleave/engine/LockMode;"), (0, .fieldref 1 8), (0, .nameAndType 9 6), (0, u "EXCLUSIVE"), (2, u "$VALUES"), (0, u "[Lcom/example/interleave/interleave/engine/LockMode;"), (6, .class_ 22), (1, u "java/lang/Enum"), (8, u "letter"), (0, u "Ljava/lang/String;"), (21, u "conflictsWith"), (0, u "(Lcom/example/interleave/interleave/engine/LockMode;)Z")] 7

def k6c0 : Code := { maxStack := 2, maxLocals := 2, code := prog_31_method_5_code, exceptionTable := #[], attributes := #[] }
def k6m0 : Method := { name := "conflictsWith", desc := "(Lcom/example/interleave/interleave/engine/LockMode;)Z", sig := { parameters := [(.object "com/example/interleave/interleave/engine/LockMode")], returnType := some .boolean }, accessFlags := 0, code := some k6c0 }
/-- com/example/interleave/interleave/engine/LockMode -/
def k6 : Class := { plain "com/example/interleave/interleave/engine/LockMode" (some 5) with
  accessFlags := 16432
  interfaces := #[]
  cf := some (fileOf pool6 1 #[] #[{ accessFlags := 0, nameIndex := 54, descriptorIndex := 55, attributes := #[] }] 16432 20 #[] #[{ accessFlags := 16409, nameIndex := 5, descriptorIndex := 6, attributes := #[] }, { accessFlags := 16409, nameIndex := 9, descriptorIndex := 6, attributes := #[] }, { accessFlags := 18, nameIndex := 31, descriptorIndex := 32, attributes := #[] }, { accessFlags := 4122, nameIndex := 12, descriptorIndex := 13, attributes := #[] }])
  fields := #[{ name := "SHARED", type := (.object "com/example/interleave/interleave/engine/LockMode"), accessFlags := 16409, slot := 0, constantValue := 0 }, { name := "EXCLUSIVE", type := (.object "com/example/interleave/interleave/engine/LockMode"), accessFlags := 16409, slot := 1, constantValue := 0 }, { name := "letter", type := (.object "java/lang/String"), accessFlags := 18, slot := 3, constantValue := 0 }, { name := "$VALUES", type := (.array (.object "com/example/interleave/interleave/engine/LockMode")), accessFlags := 4122, slot := 2, constantValue := 0 }]
  methods := #[k6m0]
  instanceTypes := #[(.object "java/lang/String"), .int, .int, (.object "java/lang/String")]
  staticTypes := #[(.object "com/example/interleave/interleave/engine/LockMode"), (.object "com/example/interleave/interleave/engine/LockMode"), (.array (.object "com/example/interleave/interleave/engine/LockMode"))]
  resolved := Array.replicate 63 none
  statics := some 0 }

def pool7 : Array CpInfo := pool [(1, u "java/lang/Cloneable"), (0, .class_ 1), (0, u "java/lang/Object"), (0, .class_ 3)] 3

/-- java/lang/Cloneable -/
def k7 : Class := { plain "java/lang/Cloneable" (some 0) with
  accessFlags := 1537
  interfaces := #[]
  cf := some (fileOf pool7 2 #[] #[] 1537 4 #[] #[])
  fields := #[]
  methods := #[]
  instanceTypes := #[]
  staticTypes := #[]
  resolved := Array.replicate 8 none
  statics := none }

/-- the primitive byte -/
def k8 : Class := { plain "byte" none with kind := .primitive 'B', accessFlags := 0x411 }
/-- [B -/
def k9 : Class := { plain "[B" (some 0) with kind := .array 8 .byte, interfaces := #[7, 4], accessFlags := 1041 }

/-- the primitive int -/
def k10 : Class := { plain "int" none with kind := .primitive 'I', accessFlags := 0x411 }
/-- [I -/
def k11 : Class := { plain "[I" (some 0) with kind := .array 10 .int, interfaces := #[7, 4], accessFlags := 1041 }

def heap : Heap := #[{ cls := 6, slots := #[.ref 1, .ref 2, .null], vm := .statics 6 },
  { cls := 6, slots := #[.null, .int 0, .int 0, .null], vm := .none },
  { cls := 6, slots := #[.null, .int 1, .int 0, .null], vm := .none }]
def classes : Array Class := #[k0, k1, k2, k3, k4, k5, k6, k7, k8, k9, k10, k11]
def interned : List (Array UInt16 × Addr) := []
def slotsUsed : Nat := 11
def theMethod : MethodId := ⟨1, 2⟩
def args0 : Array Value := #[.int 5, .int 4]
def aboutOver (below : List Frame) : State where
  vm := { classes := classes, interned := interned.toArray }
  heap := heap
  slotsUsed := slotsUsed
  threads := #[{ frames := .invoking theMethod args0 :: below }]
def below0 : List Frame := [.native { method := ⟨0, 0⟩, args := #[] }]
def about1 : State := aboutOver below0
def p0 : Program := .bare "" "" ""
def e0 : Env := launch0.env 0 0 0
theorem w_frames : about1.frames = Frame.invoking theMethod args0 :: below0 := rfl
set_option maxRecDepth 65536 in
theorem w_args : argsFit about1.vm theMethod args0 = true := by decide +kernel
set_option maxRecDepth 65536 in
theorem w_heap : heapFits about1 = true := by decide +kernel
set_option maxRecDepth 65536 in
theorem w_runnable : about1.curStatus? = some .runnable := by decide +kernel
set_option maxRecDepth 65536 in
theorem w_alone : about1.alone = true := by decide +kernel
set_option maxRecDepth 65536 in
theorem w_named : about1.methodNamed? x = some theMethod := by decide +kernel
set_option maxRecDepth 65536 in
theorem w_hears : about1.hears theMethod below0 = true := by decide +kernel
set_option maxRecDepth 65536 in
theorem w_ripe : about1.ripe theMethod args0 below0 = true := by decide +kernel
theorem w_running : about1.status = .running := rfl
set_option maxRecDepth 65536 in
theorem w_room : about1.hasRoom e0.platform room_1 = true :=
  launch0.hasRoom_least _ room_1 (by decide +kernel) (by decide +kernel) (by decide +kernel) (by decide +kernel) (by decide +kernel) (by decide +kernel)
theorem allAtoms_all (ts : List Jvm.Cond) (a : Array Jvm.Value) (st : Jvm.State) : (allAtoms ts).before a st = ts.all (fun c => c.before a st) := by
  induction ts with
  | nil => rfl
  | cons c t ih =>
    show (Jvm.Cond.and c (allAtoms t)).before a st = _
    rw [Jvm.Cond.before_and, ih, List.all_cons]
def words1 : List Jvm.Cond := Jvm.Cond.code x code maxLocals ret :: tables_1
/-- a 'code' word, met by the world's own term for the bytes: nothing is compared byte by byte -/
theorem code_word {y : MethodName} {bytes : ByteArray} {mx : Nat} {rt : Option FieldType} {a : Array Value} {s : State} {m : MethodId} {meth : Method} {c : Code} (h1 : s.methodNamed? y = some m) (h2 : s.vm.method? m = some meth) (h3 : meth.code = some c) (h4 : c.code = bytes)
    (h5 : (c.maxLocals == mx && c.exceptionTable.isEmpty && decide (c.maxStack ≤ mostOperands) && decide (meth.sig.returnType = rt) && !meth.locks && decide (parseMethodDescriptor y.desc = some meth.sig)) = true) : (Jvm.Cond.code y bytes mx rt).before a s = true := by
  simp only [Bool.and_eq_true, beq_iff_eq, Bool.not_eq_true', decide_eq_true_eq] at h5
  obtain ⟨⟨⟨⟨⟨g1, g2⟩, g3⟩, g4⟩, g5⟩, g6⟩ := h5
  simp [Cond.before, Cond.holds, Cond.value, h1, h2, h3, h4, g1, g2, g3, g4, g5, g6]
def isCode : Jvm.Cond → Bool
  | .code _ _ _ _ => true
  | _ => false
theorem all_split {L : List Jvm.Cond} {P : Jvm.Cond → Bool} (h1 : L.all (fun c => isCode c || P c) = true) (h2 : ∀ c ∈ L.filter isCode, P c = true) : L.all P = true := by
  refine List.all_eq_true.mpr fun c hc => ?_
  have h := List.all_eq_true.mp h1 c hc
  rcases Bool.eq_false_or_eq_true (isCode c) with hi | hi
  · exact h2 c (List.mem_filter.mpr ⟨hc, hi⟩)
  · simpa [hi] using h
set_option maxRecDepth 65536 in
theorem w_c0 : (Jvm.Cond.code x code maxLocals ret).before args0 about1 = true := code_word (m := ⟨1, 2⟩) (meth := k1m2) (c := k1c2) (by decide +kernel) rfl rfl rfl (by decide +kernel)
set_option maxRecDepth 65536 in
theorem w_c1 : (Jvm.Cond.code ({ cls := "com/example/interleave/interleave/engine/LockModeConflictsWithPinLaw", name := "pick", desc := "(Z)Lcom/example/interleave/interleave/engine/LockMode;" } : Jvm.MethodName) method_2_code (1 : Nat) (Option.some (Jvm.ClassFile.FieldType.object "com/example/interleave/interleave/engine/LockMode"))).before args0 about1 = true := code_word (m := ⟨1, 1⟩) (meth := k1m1) (c := k1c1) (by decide +kernel) rfl rfl rfl (by decide +kernel)
set_option maxRecDepth 65536 in
theorem w_c2 : (Jvm.Cond.code ({ cls := "com/example/interleave/interleave/engine/LockMode", name := "conflictsWith", desc := "(Lcom/example/interleave/interleave/engine/LockMode;)Z" } : Jvm.MethodName) prog_31_method_5_code (2 : Nat) (Option.some Jvm.ClassFile.FieldType.boolean)).before args0 about1 = true := code_word (m := ⟨6, 0⟩) (meth := k6m0) (c := k6c0) (by decide +kernel) rfl rfl rfl (by decide +kernel)
def codes1 : List Jvm.Cond := [Jvm.Cond.code x code maxLocals ret, Jvm.Cond.code ({ cls := "com/example/interleave/interleave/engine/LockModeConflictsWithPinLaw", name := "pick", desc := "(Z)Lcom/example/interleave/interleave/engine/LockMode;" } : Jvm.MethodName) method_2_code (1 : Nat) (Option.some (Jvm.ClassFile.FieldType.object "com/example/interleave/interleave/engine/LockMode")), Jvm.Cond.code ({ cls := "com/example/interleave/interleave/engine/LockMode", name := "conflictsWith", desc := "(Lcom/example/interleave/interleave/engine/LockMode;)Z" } : Jvm.MethodName) prog_31_method_5_code (2 : Nat) (Option.some Jvm.ClassFile.FieldType.boolean)]
set_option maxRecDepth 65536 in
theorem codes_eq : words1.filter isCode = codes1 := rfl
theorem w_codes : ∀ c ∈ words1.filter isCode, c.before args0 about1 = true := by
  rw [codes_eq]
  intro c hc
  simp only [codes1, List.mem_cons, List.not_mem_nil, or_false] at hc
  rcases hc with rfl | rfl | rfl
  · exact w_c0
  · exact w_c1
  · exact w_c2
set_option maxRecDepth 65536 in
theorem w_t1 : words1.all (fun c => isCode c || c.before args0 about1) = true := by decide +kernel
theorem w_tables : (allAtoms (Jvm.Cond.code x code maxLocals ret :: tables_1)).before args0 about1 = true := by
  rw [allAtoms_all]
  show words1.all (fun c => c.before args0 about1) = true
  refine all_split ?_ w_codes
  rw [w_t1]
set_option maxRecDepth 65536 in
theorem w_case : (Jvm.Cond.and given_1 narrow_1).before args0 about1 = true := by decide +kernel
theorem w_applies : (headSpec (Jvm.Cond.code x code maxLocals ret :: tables_1) room_1).applies x e0.platform about1 = true :=
  (Spec.applies_iff w_frames).mpr ⟨w_running, w_runnable, w_alone, w_named, w_hears, w_ripe, w_room, w_tables⟩
theorem atStart : AtStart classFile x code maxLocals ret World_1 tables_1 room_1 Calls_1 rest_1 Pre_1 launch0 p0 e0 about1 theMethod args0 below0 :=
  ⟨lists_1, trivial, launch0.admits_env _ _ _, launch0.least_env, fairChoices_fair.cas, fairChoices_fair.clock, w_frames, w_args, w_heap, w_applies, trivial, trivial, w_case⟩
end start1
theorem witness_1 : WitnessClaimed_1 := ⟨start1.p0, start1.e0, start1.about1, start1.theMethod, start1.args0, start1.below0, start1.atStart⟩
end Jvm.Pilot.@@N@@
