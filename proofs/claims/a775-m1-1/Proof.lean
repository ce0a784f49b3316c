import JvmDerived
import JvmDerived.Pilot.@@N@@Statement
import JvmDerived.Pilot.@@N@@Code
set_option linter.unusedVariables false
set_option linter.unusedSimpArgs false
namespace Jvm.Pilot.@@N@@
open Jvm Jvm.ClassFile Sem Op Lib Jvm.Free Jvm.Stand Jvm.LawKit Jvm.RoadKit Bundle Jvm.Pilot.@@N@@.Jvm.D
section OwnBase
variable {tb : Tables} {e : Env} {below : List Frame} {A B : State} {K : State → Outcome → Prop}
/-- from A the run comes to an end of which K holds -/
def own_Ends (tb : Tables) (e : Env) (below : List Frame) (A : State) (K : State → Outcome → Prop) : Prop := ∃ t o, Steps tb e below A t ∧ K t o
theorem own_open {P : State → Outcome → Prop} (h : ∀ K : State → Outcome → Prop, (∀ t o, P t o → K t o) → own_Ends tb e below A K) : ∃ t o, Steps tb e below A t ∧ P t o := h P fun _ _ q => q
theorem own_go (h : ∀ t, Steps tb e below B t → Steps tb e below A t) (k : own_Ends tb e below B K) : own_Ends tb e below A K := by
  obtain ⟨t, o, h1, h2⟩ := k; exact ⟨t, o, h t h1, h2⟩
theorem own_n0 {Z : State} {n0 : Nat} {h : Heap} (O : Old Z n0 h) : n0 ≤ h.size := O.1 ▸ O.2.1
theorem own_bt {P : Prop} [Decidable P] (h : P) : ¬ ((if P then (1 : Int32) else 0) = 0) := by rw [if_pos h]; decide
theorem own_bf {P : Prop} [Decidable P] (h : ¬ P) : (if P then (1 : Int32) else 0) = 0 := by rw [if_neg h]
theorem own_lt_n0 {Z : State} {n0 : Nat} {h : Heap} {a : Addr} (O : Old Z n0 h) (q : a < Z.heap.size) : a < n0 := O.1 ▸ q
section OwnRet
variable {p : Program} {l : Launch} {R : Room} {s : State} {m : MethodId} {args : Array Value} {meth : Method} {c : Code} {T : State} {locs : List Loc} {cells slots : Nat}
theorem own_retI (X : Stand p l e R s m args below meth c T locs cells slots) (hx : p.tables.exec = Jvm.exec) {pc : Nat} {Ls : Array Slot} {z : Int32} {rest : List Value} (hret : meth.sig.returnType = some .int) (hd : decode c.code pc = .ok (.ireturn, 1)) {fs : List Frame}
    (hl : ∀ (f : JFrame) (acts : List Action), f.method = m → f.locked = none → f.entered = [] → (doReturn e (T.setTop f) acts (some (.int z))).1 = T.setFrames fs) : Steps p.tables e below (T.setTop (mkF m pc Ls (.int z :: rest))) (T.setFrames fs) :=
  retOut X hx hret rfl (Or.inl ⟨rfl, Or.inl rfl, z, rfl⟩) hd hl
theorem own_retL (X : Stand p l e R s m args below meth c T locs cells slots) (hx : p.tables.exec = Jvm.exec) {pc : Nat} {Ls : Array Slot} {z : Int64} {rest : List Value} (hret : meth.sig.returnType = some .long) (hd : decode c.code pc = .ok (.lreturn, 1)) {fs : List Frame}
    (hl : ∀ (f : JFrame) (acts : List Action), f.method = m → f.locked = none → f.entered = [] → (doReturn e (T.setTop f) acts (some (.long z))).1 = T.setFrames fs) : Steps p.tables e below (T.setTop (mkF m pc Ls (.long z :: rest))) (T.setFrames fs) :=
  retOut X hx hret rfl (Or.inr (Or.inl ⟨rfl, rfl, z, rfl⟩)) hd hl
theorem own_retA (X : Stand p l e R s m args below meth c T locs cells slots) (hx : p.tables.exec = Jvm.exec) {pc : Nat} {Ls : Array Slot} {w : Value} {t : FieldType} {rest : List Value} (hret : meth.sig.returnType = some t) (ht : t.isReference = true) (hw : w.isRef = true) (hd : decode c.code pc = .ok (.areturn, 1)) {fs : List Frame}
    (hl : ∀ (f : JFrame) (acts : List Action), f.method = m → f.locked = none → f.entered = [] → (doReturn e (T.setTop f) acts (some w)).1 = T.setFrames fs) : Steps p.tables e below (T.setTop (mkF m pc Ls (w :: rest))) (T.setFrames fs) := by
  have hn : narrow t w = w := by cases t <;> first | rfl | exact Bool.noConfusion ht
  exact retOut X hx hret hn (Or.inr (Or.inr (Or.inr (Or.inr ⟨rfl, ht, hw⟩)))) hd hl
end OwnRet
end OwnBase
theorem own_fldI {Z : State} {args : Array Value} {t : Term} {C n d : String} {x : Addr} {k : Int32} (ev : t.eval args Z none [] Z = some (.ref x)) (h : (Jvm.Cond.eq (Term.field t C n d) (Term.int k)).value args Z none Z [] = some true) : Fld Z Z.heap x C n d (.int k) := by
  apply Fld.start
  rw [← fld_at (t := t) (args := args) (first := Z) (o := none) (idx := []) ev]
  obtain ⟨y, z, h1, h2, -, -⟩ := cmp_v (Or.inl h)
  have h3 : z = .int k := Option.some.inj (h2.symm.trans (Term.int_eval k))
  subst h3
  rw [h1]
  simp only [Jvm.Cond.value] at h
  rw [h1, h2] at h
  cases y <;> simp at h ⊢
  exact h

theorem own_d0_0 : decode prog_33_method_7_code 0 = .ok (.iload_n 0, 1) := by decide +kernel
theorem own_d0_1 : decode prog_33_method_7_code 1 = .ok (.ifCond .eq 14, 3) := by decide +kernel
theorem own_d0_15 : decode prog_33_method_7_code 15 = .ok (.iload_n 0, 1) := by decide +kernel
theorem own_d0_16 : decode prog_33_method_7_code 16 = .ok (.ifCond .eq 10, 3) := by decide +kernel
theorem own_d0_26 : decode prog_33_method_7_code 26 = .ok (.getstatic 7, 3) := by decide +kernel
theorem own_d0_29 : decode prog_33_method_7_code 29 = .ok (.astore_n 2, 1) := by decide +kernel
theorem own_d0_30 : decode prog_33_method_7_code 30 = .ok (.aload_n 2, 1) := by decide +kernel
theorem own_d0_31 : decode prog_33_method_7_code 31 = .ok (.areturn, 1) := by decide +kernel
theorem own_d0_4 : decode prog_33_method_7_code 4 = .ok (.iload_n 1, 1) := by decide +kernel
theorem own_d0_5 : decode prog_33_method_7_code 5 = .ok (.ifCond .eq 10, 3) := by decide +kernel
theorem own_d0_19 : decode prog_33_method_7_code 19 = .ok (.getstatic 3, 3) := by decide +kernel
theorem own_d0_22 : decode prog_33_method_7_code 22 = .ok (.astore_n 2, 1) := by decide +kernel
theorem own_d0_23 : decode prog_33_method_7_code 23 = .ok (.goto 7, 3) := by decide +kernel
theorem own_d0_8 : decode prog_33_method_7_code 8 = .ok (.getstatic 10, 3) := by decide +kernel
theorem own_d0_11 : decode prog_33_method_7_code 11 = .ok (.astore_n 2, 1) := by decide +kernel
theorem own_d0_12 : decode prog_33_method_7_code 12 = .ok (.goto 18, 3) := by decide +kernel
theorem own_pn_0 : plainName "com/example/interleave/interleave/engine/LockType" = true := by first | (simp [plainName, overriddenIn]; done) | decide +kernel
theorem own_ef_covering (m : MethodId) (x0 : Int32) (x1 : Int32)  : entryFrame m #[(.int x0), (.int x1)] 3 = mkF m 0 #[.val (.int x0), .val (.int x1), .unset] [] := by first | (simp [entryFrame, mkF, argsToLocals, Value.category]; done) | rfl
def own_Q_covering (Z : State) (q1 q2 : Int32) (w_RECORD w_NEXT_KEY w_GAP r : Addr) (h0 : Heap) (n0 : Nat) (v : Option Value) (h : Heap) (L : List Loc) : Prop := v = some (.ref r) ∧ Fr n0 L ∧ h = h0
set_option maxRecDepth 65536 in
set_option maxHeartbeats 40000000 in
theorem own_rm_covering (l : Launch) (Z : State) (a0 : Array Value) (hw : ∀ d ∈ tables_1, d.before a0 Z = true) (ws : List Jvm.Cond) (q1 q2 : Int32) (w_RECORD w_NEXT_KEY w_GAP r : Addr) (h0 : Heap) (n0 : Nat) (O0 : Old Z n0 h0) (S_RECORD : Sta Z Z.heap "com/example/interleave/interleave/engine/LockType" "RECORD" "Lcom/example/interleave/interleave/engine/LockType;" (.ref w_RECORD)) (S_NEXT_KEY : Sta Z Z.heap "com/example/interleave/interleave/engine/LockType" "NEXT_KEY" "Lcom/example/interleave/interleave/engine/LockType;" (.ref w_NEXT_KEY)) (S_GAP : Sta Z Z.heap "com/example/interleave/interleave/engine/LockType" "GAP" "Lcom/example/interleave/interleave/engine/LockType;" (.ref w_GAP)) (hr0 : r = if q1 = 0 then w_GAP else if q2 = 0 then w_RECORD else w_NEXT_KEY) :
    MetFree l (⟨"com/example/interleave/interleave/engine/LockType", "covering", "(ZZ)Lcom/example/interleave/interleave/engine/LockType;"⟩ : MethodName) (head1 (Jvm.Cond.code (⟨"com/example/interleave/interleave/engine/LockType", "covering", "(ZZ)Lcom/example/interleave/interleave/engine/LockType;"⟩ : MethodName) prog_33_method_7_code 3 (some (.object "com/example/interleave/interleave/engine/LockType")) :: ws) ({ frames := 0, cells := 0, slots := 0, locals := 0 } : Room)) (fun ar9 U => ar9 = #[(.int q1), (.int q2)] ∧ Z.Warmed39 U.vm ∧ U.heap = h0) (fun _ _ _ _ _ => True) (fun _ U o U' => ∃ v L, o = .returned v ∧ own_Q_covering Z q1 q2 w_RECORD w_NEXT_KEY w_GAP r h0 n0 v U'.heap L ∧ FrameEnd U o U' L ({ frames := 0, cells := 0, slots := 0, locals := 0 } : Room).cells ({ frames := 0, cells := 0, slots := 0, locals := 0 } : Room).slots) := by
  refine MetFree.of_bodySF (plainFor_of_name own_pn_0) hisR ?_
  intro p e s m args below meth c s₁ Bd hml0 hP hK0
  obtain ⟨rfl, hZ, hh⟩ := hP
  have hx := Bd.exec
  have hby := Bd.bytes
  have hml : c.maxLocals = 3 := hml0
  have hown : s.vm.findClass "com/example/interleave/interleave/engine/LockType" = some m.cls := findClass_of_methodNamed Bd.named
  have hnm := (name_of_methodNamed Bd.named Bd.method).1
  have X0 : Stand p l e ({ frames := 0, cells := 0, slots := 0, locals := 0 } : Room) s m #[(.int q1), (.int q2)] below meth c s₁ [] 0 0 := Stand.of_body Bd
  have e0 : s₁.heap = h0 := by rw [← hh, Bd.state]; rfl
  have N0 := Fr.nil n0
  refine own_open fun K hK => ?_
  refine own_go (B := s₁.setTop (mkF m 0 #[.val (.int q1), .val (.int q2), .unset] [])) (fun t k => castTop (own_ef_covering m q1 q2) k) ?_
  refine own_go (B := s₁.setTop (mkF m 1 #[.val (.int q1), .val (.int q2), .unset] [(.int q1)])) (fun t k => XS.iloadN X0.here hx rfl (hb hby own_d0_0) rfl k) ?_
  by_cases hc1_1 : q1 = (0 : Int32)
  · refine own_go (B := s₁.setTop (mkF m 15 #[.val (.int q1), .val (.int q2), .unset] [])) (fun t k => XS.ifYes X0.here hx rfl (pc0 := 1) (pc' := 15) rfl (hb hby own_d0_1) rfl ((if0 _ _).trans (teq hc1_1).1) (by decide) (by decide) k) ?_
    refine own_go (B := s₁.setTop (mkF m 16 #[.val (.int q1), .val (.int q2), .unset] [(.int q1)])) (fun t k => XS.iloadN X0.here hx rfl (hb hby own_d0_15) rfl k) ?_
    refine own_go (B := s₁.setTop (mkF m 26 #[.val (.int q1), .val (.int q2), .unset] [])) (fun t k => XS.ifYes X0.here hx rfl (pc0 := 16) (pc' := 26) rfl (hb hby own_d0_16) rfl ((if0 _ _).trans (teq hc1_1).1) (by decide) (by decide) k) ?_
    obtain ⟨T3, X3, e3, st3⟩ := getS2 X0 hx hZ hown (host := "") (Or.inl (hw _ (List.mem_of_getElem? (i := 23) rfl))) Via.refl e0 (S_GAP.ext O0.2) (g := (mkF m 26 #[.val (.int q1), .val (.int q2), .unset] [])) rfl (hb hby own_d0_26)
    refine own_go (B := T3.setTop (mkF m 29 #[.val (.int q1), .val (.int q2), .unset] [(.ref w_GAP)])) (fun t k => st3 _ k) ?_
    refine own_go (B := T3.setTop (mkF m 30 #[.val (.int q1), .val (.int q2), .val (.ref w_GAP)] [])) (fun t k => XS.astoreN X3.here hx rfl (hb hby own_d0_29) rfl rfl (l' := #[.val (.int q1), .val (.int q2), .val (.ref w_GAP)]) rfl k) ?_
    refine own_go (B := T3.setTop (mkF m 31 #[.val (.int q1), .val (.int q2), .val (.ref w_GAP)] [(.ref w_GAP)])) (fun t k => XS.aloadN X3.here hx rfl (hb hby own_d0_30) rfl rfl k) ?_
    obtain ⟨fs, hr, hrun, hended, hW, hsame⟩ := X3.leave (v := some (.ref w_GAP)) (fun h => by rw [Bd.returns] at h; cases h)
    refine ⟨_, _, own_retA X3 hx Bd.returns rfl rfl (hb hby own_d0_31) hr, hK _ _ ⟨hrun, hended, _, _, rfl, ?_, ⟨_, rfl⟩, hW, hsame.mono (by decide) (by decide)⟩⟩
    show own_Q_covering Z q1 q2 w_RECORD w_NEXT_KEY w_GAP r h0 n0 _ T3.heap _
    rw [e3]
    exact ⟨(by rw [hr0]; simp [hc1_1]), N0, rfl⟩
  · refine own_go (B := s₁.setTop (mkF m 4 #[.val (.int q1), .val (.int q2), .unset] [])) (fun t k => XS.ifNo X0.here hx rfl (hb hby own_d0_1) rfl ((if0 _ _).trans (feq hc1_1).1) k) ?_
    refine own_go (B := s₁.setTop (mkF m 5 #[.val (.int q1), .val (.int q2), .unset] [(.int q2)])) (fun t k => XS.iloadN X0.here hx rfl (hb hby own_d0_4) rfl k) ?_
    by_cases hc5_5 : q2 = (0 : Int32)
    · refine own_go (B := s₁.setTop (mkF m 15 #[.val (.int q1), .val (.int q2), .unset] [])) (fun t k => XS.ifYes X0.here hx rfl (pc0 := 5) (pc' := 15) rfl (hb hby own_d0_5) rfl ((if0 _ _).trans (teq hc5_5).1) (by decide) (by decide) k) ?_
      refine own_go (B := s₁.setTop (mkF m 16 #[.val (.int q1), .val (.int q2), .unset] [(.int q1)])) (fun t k => XS.iloadN X0.here hx rfl (hb hby own_d0_15) rfl k) ?_
      refine own_go (B := s₁.setTop (mkF m 19 #[.val (.int q1), .val (.int q2), .unset] [])) (fun t k => XS.ifNo X0.here hx rfl (hb hby own_d0_16) rfl ((if0 _ _).trans (feq hc1_1).1) k) ?_
      obtain ⟨T7, X7, e7, st7⟩ := getS2 X0 hx hZ hown (host := "") (Or.inl (hw _ (List.mem_of_getElem? (i := 5) rfl))) Via.refl e0 (S_RECORD.ext O0.2) (g := (mkF m 19 #[.val (.int q1), .val (.int q2), .unset] [])) rfl (hb hby own_d0_19)
      refine own_go (B := T7.setTop (mkF m 22 #[.val (.int q1), .val (.int q2), .unset] [(.ref w_RECORD)])) (fun t k => st7 _ k) ?_
      refine own_go (B := T7.setTop (mkF m 23 #[.val (.int q1), .val (.int q2), .val (.ref w_RECORD)] [])) (fun t k => XS.astoreN X7.here hx rfl (hb hby own_d0_22) rfl rfl (l' := #[.val (.int q1), .val (.int q2), .val (.ref w_RECORD)]) rfl k) ?_
      refine own_go (B := T7.setTop (mkF m 30 #[.val (.int q1), .val (.int q2), .val (.ref w_RECORD)] [])) (fun t k => XS.goto X7.here hx rfl (pc0 := 23) (pc' := 30) rfl (hb hby own_d0_23) (by decide) (by decide) k) ?_
      refine own_go (B := T7.setTop (mkF m 31 #[.val (.int q1), .val (.int q2), .val (.ref w_RECORD)] [(.ref w_RECORD)])) (fun t k => XS.aloadN X7.here hx rfl (hb hby own_d0_30) rfl rfl k) ?_
      obtain ⟨fs, hr, hrun, hended, hW, hsame⟩ := X7.leave (v := some (.ref w_RECORD)) (fun h => by rw [Bd.returns] at h; cases h)
      refine ⟨_, _, own_retA X7 hx Bd.returns rfl rfl (hb hby own_d0_31) hr, hK _ _ ⟨hrun, hended, _, _, rfl, ?_, ⟨_, rfl⟩, hW, hsame.mono (by decide) (by decide)⟩⟩
      show own_Q_covering Z q1 q2 w_RECORD w_NEXT_KEY w_GAP r h0 n0 _ T7.heap _
      rw [e7]
      exact ⟨(by rw [hr0]; simp [hc1_1, hc5_5]), N0, rfl⟩
    · refine own_go (B := s₁.setTop (mkF m 8 #[.val (.int q1), .val (.int q2), .unset] [])) (fun t k => XS.ifNo X0.here hx rfl (hb hby own_d0_5) rfl ((if0 _ _).trans (feq hc5_5).1) k) ?_
      obtain ⟨T9, X9, e9, st9⟩ := getS2 X0 hx hZ hown (host := "") (Or.inl (hw _ (List.mem_of_getElem? (i := 21) rfl))) Via.refl e0 (S_NEXT_KEY.ext O0.2) (g := (mkF m 8 #[.val (.int q1), .val (.int q2), .unset] [])) rfl (hb hby own_d0_8)
      refine own_go (B := T9.setTop (mkF m 11 #[.val (.int q1), .val (.int q2), .unset] [(.ref w_NEXT_KEY)])) (fun t k => st9 _ k) ?_
      refine own_go (B := T9.setTop (mkF m 12 #[.val (.int q1), .val (.int q2), .val (.ref w_NEXT_KEY)] [])) (fun t k => XS.astoreN X9.here hx rfl (hb hby own_d0_11) rfl rfl (l' := #[.val (.int q1), .val (.int q2), .val (.ref w_NEXT_KEY)]) rfl k) ?_
      refine own_go (B := T9.setTop (mkF m 30 #[.val (.int q1), .val (.int q2), .val (.ref w_NEXT_KEY)] [])) (fun t k => XS.goto X9.here hx rfl (pc0 := 12) (pc' := 30) rfl (hb hby own_d0_12) (by decide) (by decide) k) ?_
      refine own_go (B := T9.setTop (mkF m 31 #[.val (.int q1), .val (.int q2), .val (.ref w_NEXT_KEY)] [(.ref w_NEXT_KEY)])) (fun t k => XS.aloadN X9.here hx rfl (hb hby own_d0_30) rfl rfl k) ?_
      obtain ⟨fs, hr, hrun, hended, hW, hsame⟩ := X9.leave (v := some (.ref w_NEXT_KEY)) (fun h => by rw [Bd.returns] at h; cases h)
      refine ⟨_, _, own_retA X9 hx Bd.returns rfl rfl (hb hby own_d0_31) hr, hK _ _ ⟨hrun, hended, _, _, rfl, ?_, ⟨_, rfl⟩, hW, hsame.mono (by decide) (by decide)⟩⟩
      show own_Q_covering Z q1 q2 w_RECORD w_NEXT_KEY w_GAP r h0 n0 _ T9.heap _
      rw [e9]
      exact ⟨(by rw [hr0]; simp [hc1_1, hc5_5]), N0, rfl⟩
theorem own_d2_0 : decode prog_33_method_5_code 0 = .ok (.aload_n 0, 1) := by decide +kernel
theorem own_d2_1 : decode prog_33_method_5_code 1 = .ok (.getfield 35, 3) := by decide +kernel
theorem own_d2_4 : decode prog_33_method_5_code 4 = .ok (.ireturn, 1) := by decide +kernel
theorem own_ef_coversRecord (m : MethodId) (x0 : Addr)  : entryFrame m #[(.ref x0)] 1 = mkF m 0 #[.val (.ref x0)] [] := by first | (simp [entryFrame, mkF, argsToLocals, Value.category]; done) | rfl
def own_Q_coversRecord (Z : State) (a : Addr) (r : Int32) (h0 : Heap) (n0 : Nat) (v : Option Value) (h : Heap) (L : List Loc) : Prop := v = some (.int r) ∧ Fr n0 L ∧ h = h0
set_option maxRecDepth 65536 in
set_option maxHeartbeats 40000000 in
theorem own_rm_coversRecord (l : Launch) (Z : State) (a0 : Array Value) (hw : ∀ d ∈ tables_1, d.before a0 Z = true) (ws : List Jvm.Cond) (a : Addr) (r : Int32) (h0 : Heap) (n0 : Nat) (O0 : Old Z n0 h0) (F0 : Fld Z Z.heap a "com/example/interleave/interleave/engine/LockType" "record" "Z" (.int r)) (hb0 : nar .boolean r = r) :
    MetFree l (⟨"com/example/interleave/interleave/engine/LockType", "coversRecord", "()Z"⟩ : MethodName) (head1 (Jvm.Cond.code (⟨"com/example/interleave/interleave/engine/LockType", "coversRecord", "()Z"⟩ : MethodName) prog_33_method_5_code 1 (some .boolean) :: ws) ({ frames := 0, cells := 0, slots := 0, locals := 0 } : Room)) (fun ar9 U => ar9 = #[(.ref a)] ∧ Z.Warmed39 U.vm ∧ U.heap = h0) (fun _ _ _ _ _ => True) (fun _ U o U' => ∃ v L, o = .returned v ∧ own_Q_coversRecord Z a r h0 n0 v U'.heap L ∧ FrameEnd U o U' L ({ frames := 0, cells := 0, slots := 0, locals := 0 } : Room).cells ({ frames := 0, cells := 0, slots := 0, locals := 0 } : Room).slots) := by
  refine MetFree.of_bodySF (plainFor_of_name own_pn_0) hisR ?_
  intro p e s m args below meth c s₁ Bd hml0 hP hK0
  obtain ⟨rfl, hZ, hh⟩ := hP
  have hx := Bd.exec
  have hby := Bd.bytes
  have hml : c.maxLocals = 1 := hml0
  have hown : s.vm.findClass "com/example/interleave/interleave/engine/LockType" = some m.cls := findClass_of_methodNamed Bd.named
  have hnm := (name_of_methodNamed Bd.named Bd.method).1
  have X0 : Stand p l e ({ frames := 0, cells := 0, slots := 0, locals := 0 } : Room) s m #[(.ref a)] below meth c s₁ [] 0 0 := Stand.of_body Bd
  have e0 : s₁.heap = h0 := by rw [← hh, Bd.state]; rfl
  have N0 := Fr.nil n0
  refine own_open fun K hK => ?_
  refine own_go (B := s₁.setTop (mkF m 0 #[.val (.ref a)] [])) (fun t k => castTop (own_ef_coversRecord m a) k) ?_
  refine own_go (B := s₁.setTop (mkF m 1 #[.val (.ref a)] [(.ref a)])) (fun t k => XS.aloadN X0.here hx rfl (hb hby own_d2_0) rfl rfl k) ?_
  obtain ⟨T11, X11, e11, st11⟩ := getF X0 hx hZ hown (host := "") (Or.inl (hw _ (List.mem_of_getElem? (i := 12) rfl))) Via.refl e0 (F0.ext O0.2) (g := (mkF m 1 #[.val (.ref a)] [(.ref a)])) rfl rfl (hb hby own_d2_1)
  refine own_go (B := T11.setTop (mkF m 4 #[.val (.ref a)] [(.int r)])) (fun t k => st11 _ k) ?_
  obtain ⟨fs, hr, hrun, hended, hW, hsame⟩ := X11.leave (v := some (.int (nar .boolean r))) (fun h => by rw [Bd.returns] at h; cases h)
  refine ⟨_, _, retN X11 hx (t := .boolean) Bd.returns (by simp) (hb hby own_d2_4) hr, hK _ _ ⟨hrun, hended, _, _, rfl, ?_, ⟨_, rfl⟩, hW, hsame.mono (by decide) (by decide)⟩⟩
  show own_Q_coversRecord Z a r h0 n0 _ T11.heap _
  rw [e11]
  exact ⟨(by rw [hb0]), N0, rfl⟩
theorem own_d1_0 : decode prog_33_method_6_code 0 = .ok (.aload_n 0, 1) := by decide +kernel
theorem own_d1_1 : decode prog_33_method_6_code 1 = .ok (.getfield 39, 3) := by decide +kernel
theorem own_d1_4 : decode prog_33_method_6_code 4 = .ok (.ireturn, 1) := by decide +kernel
theorem own_ef_coversGap (m : MethodId) (x0 : Addr)  : entryFrame m #[(.ref x0)] 1 = mkF m 0 #[.val (.ref x0)] [] := by first | (simp [entryFrame, mkF, argsToLocals, Value.category]; done) | rfl
def own_Q_coversGap (Z : State) (a : Addr) (r : Int32) (h0 : Heap) (n0 : Nat) (v : Option Value) (h : Heap) (L : List Loc) : Prop := v = some (.int r) ∧ Fr n0 L ∧ h = h0
set_option maxRecDepth 65536 in
set_option maxHeartbeats 40000000 in
theorem own_rm_coversGap (l : Launch) (Z : State) (a0 : Array Value) (hw : ∀ d ∈ tables_1, d.before a0 Z = true) (ws : List Jvm.Cond) (a : Addr) (r : Int32) (h0 : Heap) (n0 : Nat) (O0 : Old Z n0 h0) (F0 : Fld Z Z.heap a "com/example/interleave/interleave/engine/LockType" "gap" "Z" (.int r)) (hb0 : nar .boolean r = r) :
    MetFree l (⟨"com/example/interleave/interleave/engine/LockType", "coversGap", "()Z"⟩ : MethodName) (head1 (Jvm.Cond.code (⟨"com/example/interleave/interleave/engine/LockType", "coversGap", "()Z"⟩ : MethodName) prog_33_method_6_code 1 (some .boolean) :: ws) ({ frames := 0, cells := 0, slots := 0, locals := 0 } : Room)) (fun ar9 U => ar9 = #[(.ref a)] ∧ Z.Warmed39 U.vm ∧ U.heap = h0) (fun _ _ _ _ _ => True) (fun _ U o U' => ∃ v L, o = .returned v ∧ own_Q_coversGap Z a r h0 n0 v U'.heap L ∧ FrameEnd U o U' L ({ frames := 0, cells := 0, slots := 0, locals := 0 } : Room).cells ({ frames := 0, cells := 0, slots := 0, locals := 0 } : Room).slots) := by
  refine MetFree.of_bodySF (plainFor_of_name own_pn_0) hisR ?_
  intro p e s m args below meth c s₁ Bd hml0 hP hK0
  obtain ⟨rfl, hZ, hh⟩ := hP
  have hx := Bd.exec
  have hby := Bd.bytes
  have hml : c.maxLocals = 1 := hml0
  have hown : s.vm.findClass "com/example/interleave/interleave/engine/LockType" = some m.cls := findClass_of_methodNamed Bd.named
  have hnm := (name_of_methodNamed Bd.named Bd.method).1
  have X0 : Stand p l e ({ frames := 0, cells := 0, slots := 0, locals := 0 } : Room) s m #[(.ref a)] below meth c s₁ [] 0 0 := Stand.of_body Bd
  have e0 : s₁.heap = h0 := by rw [← hh, Bd.state]; rfl
  have N0 := Fr.nil n0
  refine own_open fun K hK => ?_
  refine own_go (B := s₁.setTop (mkF m 0 #[.val (.ref a)] [])) (fun t k => castTop (own_ef_coversGap m a) k) ?_
  refine own_go (B := s₁.setTop (mkF m 1 #[.val (.ref a)] [(.ref a)])) (fun t k => XS.aloadN X0.here hx rfl (hb hby own_d1_0) rfl rfl k) ?_
  obtain ⟨T13, X13, e13, st13⟩ := getF X0 hx hZ hown (host := "") (Or.inl (hw _ (List.mem_of_getElem? (i := 19) rfl))) Via.refl e0 (F0.ext O0.2) (g := (mkF m 1 #[.val (.ref a)] [(.ref a)])) rfl rfl (hb hby own_d1_1)
  refine own_go (B := T13.setTop (mkF m 4 #[.val (.ref a)] [(.int r)])) (fun t k => st13 _ k) ?_
  obtain ⟨fs, hr, hrun, hended, hW, hsame⟩ := X13.leave (v := some (.int (nar .boolean r))) (fun h => by rw [Bd.returns] at h; cases h)
  refine ⟨_, _, retN X13 hx (t := .boolean) Bd.returns (by simp) (hb hby own_d1_4) hr, hK _ _ ⟨hrun, hended, _, _, rfl, ?_, ⟨_, rfl⟩, hW, hsame.mono (by decide) (by decide)⟩⟩
  show own_Q_coversGap Z a r h0 n0 _ T13.heap _
  rw [e13]
  exact ⟨(by rw [hb0]), N0, rfl⟩
theorem own_pd_0 : parseMethodDescriptor "(ZZ)Lcom/example/interleave/interleave/engine/LockType;" = some ⟨[.boolean, .boolean], some (.object "com/example/interleave/interleave/engine/LockType")⟩ := by decide +kernel
theorem own_pd_1 : parseMethodDescriptor "()Z" = some ⟨[], some .boolean⟩ := by decide +kernel
theorem own_pn_1 : plainName "com/example/interleave/interleave/engine/LockTypeCoveringPinLaw" = true := by first | (simp [plainName, overriddenIn]; done) | decide +kernel
theorem own_ef_law (m : MethodId) (x0 : Int32)  : entryFrame m #[(.int x0)] maxLocals = mkF m 0 #[.val (.int x0), .unset, .unset, .unset, .unset] [] := by first | (simp [entryFrame, mkF, argsToLocals, Value.category, maxLocals]; done) | rfl
def own_Q_law (Z : State) (p1 : Int32) (w_RECORD w_NEXT_KEY w_GAP : Addr) (h0 : Heap) (n0 : Nat) (v : Option Value) (h : Heap) (L : List Loc) : Prop := v = some (.int 1) ∧ Fr n0 L
set_option maxRecDepth 65536 in
set_option maxHeartbeats 40000000 in
theorem own_rm_law (l : Launch) (Z : State) (a0 : Array Value) (hw : ∀ d ∈ tables_1, d.before a0 Z = true) (ws : List Jvm.Cond) (p1 : Int32) (w_RECORD w_NEXT_KEY w_GAP : Addr) (h0 : Heap) (n0 : Nat) (O0 : Old Z n0 h0) (S_RECORD : Sta Z Z.heap "com/example/interleave/interleave/engine/LockType" "RECORD" "Lcom/example/interleave/interleave/engine/LockType;" (.ref w_RECORD)) (E_RECORD : Exa Z Z.heap w_RECORD "com/example/interleave/interleave/engine/LockType") (F_RECORD_record : Fld Z Z.heap w_RECORD "com/example/interleave/interleave/engine/LockType" "record" "Z" (.int (1 : Int32))) (F_RECORD_gap : Fld Z Z.heap w_RECORD "com/example/interleave/interleave/engine/LockType" "gap" "Z" (.int (0 : Int32))) (S_NEXT_KEY : Sta Z Z.heap "com/example/interleave/interleave/engine/LockType" "NEXT_KEY" "Lcom/example/interleave/interleave/engine/LockType;" (.ref w_NEXT_KEY)) (E_NEXT_KEY : Exa Z Z.heap w_NEXT_KEY "com/example/interleave/interleave/engine/LockType") (F_NEXT_KEY_record : Fld Z Z.heap w_NEXT_KEY "com/example/interleave/interleave/engine/LockType" "record" "Z" (.int (1 : Int32))) (F_NEXT_KEY_gap : Fld Z Z.heap w_NEXT_KEY "com/example/interleave/interleave/engine/LockType" "gap" "Z" (.int (1 : Int32))) (S_GAP : Sta Z Z.heap "com/example/interleave/interleave/engine/LockType" "GAP" "Lcom/example/interleave/interleave/engine/LockType;" (.ref w_GAP)) (E_GAP : Exa Z Z.heap w_GAP "com/example/interleave/interleave/engine/LockType") (F_GAP_record : Fld Z Z.heap w_GAP "com/example/interleave/interleave/engine/LockType" "record" "Z" (.int (0 : Int32))) (F_GAP_gap : Fld Z Z.heap w_GAP "com/example/interleave/interleave/engine/LockType" "gap" "Z" (.int (1 : Int32))) :
    MetFree l x (head1 (Jvm.Cond.code x code maxLocals ret :: ws) room_1) (fun ar9 U => ar9 = #[(.int p1)] ∧ Z.Warmed39 U.vm ∧ U.heap = h0) (fun _ _ _ _ _ => True) (fun _ U o U' => ∃ v L, o = .returned v ∧ own_Q_law Z p1 w_RECORD w_NEXT_KEY w_GAP h0 n0 v U'.heap L ∧ FrameEnd U o U' L room_1.cells room_1.slots) := by
  refine MetFree.of_bodySF (plainFor_of_name own_pn_1) hisR ?_
  intro p e s m args below meth c s₁ Bd hml0 hP hK0
  obtain ⟨rfl, hZ, hh⟩ := hP
  have hx := Bd.exec
  have hby := Bd.bytes
  have hml : c.maxLocals = 5 := hml0
  have hown : s.vm.findClass "com/example/interleave/interleave/engine/LockTypeCoveringPinLaw" = some m.cls := findClass_of_methodNamed Bd.named
  have hnm := (name_of_methodNamed Bd.named Bd.method).1
  have X0 : Stand p l e room_1 s m #[(.int p1)] below meth c s₁ [] 0 0 := Stand.of_body Bd
  have e0 : s₁.heap = h0 := by rw [← hh, Bd.state]; rfl
  have N0 := Fr.nil n0
  refine own_open fun K hK => ?_
  refine own_go (B := s₁.setTop (mkF m 0 #[.val (.int p1), .unset, .unset, .unset, .unset] [])) (fun t k => castTop (own_ef_law m p1) k) ?_
  refine own_go (B := s₁.setTop (mkF m 1 #[.val (.int p1), .unset, .unset, .unset, .unset] [(.int p1)])) (fun t k => XS.iloadN X0.here hx rfl (hb hby at_0) rfl k) ?_
  refine own_go (B := s₁.setTop (mkF m 3 #[.val (.int p1), .unset, .unset, .unset, .unset] [(.int (2147483647 : Int32)), (.int p1)])) (fun t k => X0.ldcInt hx hown (mvT hZ (hw _ (List.mem_of_getElem? (i := 0) rfl))) (g := (mkF m 1 #[.val (.int p1), .unset, .unset, .unset, .unset] [(.int p1)])) rfl (hb hby at_1) _ k) ?_
  refine own_go (B := s₁.setTop (mkF m 4 #[.val (.int p1), .unset, .unset, .unset, .unset] [(.int (p1 &&& (2147483647 : Int32)))])) (fun t k => XS.iand X0.here hx rfl (hb hby at_3) rfl k) ?_
  refine own_go (B := s₁.setTop (mkF m 5 #[.val (.int p1), .unset, .unset, .unset, .unset] [(.int (3 : Int32)), (.int (p1 &&& (2147483647 : Int32)))])) (fun t k => XS.iconst X0.here hx rfl (hb hby at_4) k) ?_
  refine own_go (B := s₁.setTop (mkF m 6 #[.val (.int p1), .unset, .unset, .unset, .unset] [(.int ((p1 &&& (2147483647 : Int32)) % (3 : Int32)))])) (fun t k => iremM X0 hx rfl (hb hby at_5) rfl (by decide) k) ?_
  refine own_go (B := s₁.setTop (mkF m 7 #[.val (.int p1), .val (.int ((p1 &&& (2147483647 : Int32)) % (3 : Int32))), .unset, .unset, .unset] [])) (fun t k => XS.istoreN X0.here hx rfl (hb hby at_6) rfl (l' := #[.val (.int p1), .val (.int ((p1 &&& (2147483647 : Int32)) % (3 : Int32))), .unset, .unset, .unset]) rfl k) ?_
  refine own_go (B := s₁.setTop (mkF m 8 #[.val (.int p1), .val (.int ((p1 &&& (2147483647 : Int32)) % (3 : Int32))), .unset, .unset, .unset] [(.int ((p1 &&& (2147483647 : Int32)) % (3 : Int32)))])) (fun t k => XS.iloadN X0.here hx rfl (hb hby at_7) rfl k) ?_
  refine own_go (B := s₁.setTop (mkF m 9 #[.val (.int p1), .val (.int ((p1 &&& (2147483647 : Int32)) % (3 : Int32))), .unset, .unset, .unset] [(.int (1 : Int32)), (.int ((p1 &&& (2147483647 : Int32)) % (3 : Int32)))])) (fun t k => XS.iconst X0.here hx rfl (hb hby at_8) k) ?_
  by_cases hc9_15 : ((p1 &&& (2147483647 : Int32)) % (3 : Int32)) = (1 : Int32)
  · refine own_go (B := s₁.setTop (mkF m 16 #[.val (.int p1), .val (.int ((p1 &&& (2147483647 : Int32)) % (3 : Int32))), .unset, .unset, .unset] [])) (fun t k => XS.icmpYes X0.here hx rfl (pc0 := 9) (pc' := 16) rfl (hb hby at_9) rfl (teq hc9_15).1 (by decide) (by decide) k) ?_
    refine own_go (B := s₁.setTop (mkF m 17 #[.val (.int p1), .val (.int ((p1 &&& (2147483647 : Int32)) % (3 : Int32))), .unset, .unset, .unset] [(.int (0 : Int32))])) (fun t k => XS.iconst X0.here hx rfl (hb hby at_16) k) ?_
    refine own_go (B := s₁.setTop (mkF m 18 #[.val (.int p1), .val (.int ((p1 &&& (2147483647 : Int32)) % (3 : Int32))), .val (.int (0 : Int32)), .unset, .unset] [])) (fun t k => XS.istoreN X0.here hx rfl (hb hby at_17) rfl (l' := #[.val (.int p1), .val (.int ((p1 &&& (2147483647 : Int32)) % (3 : Int32))), .val (.int (0 : Int32)), .unset, .unset]) rfl k) ?_
    refine own_go (B := s₁.setTop (mkF m 19 #[.val (.int p1), .val (.int ((p1 &&& (2147483647 : Int32)) % (3 : Int32))), .val (.int (0 : Int32)), .unset, .unset] [(.int ((p1 &&& (2147483647 : Int32)) % (3 : Int32)))])) (fun t k => XS.iloadN X0.here hx rfl (hb hby at_18) rfl k) ?_
    refine own_go (B := s₁.setTop (mkF m 22 #[.val (.int p1), .val (.int ((p1 &&& (2147483647 : Int32)) % (3 : Int32))), .val (.int (0 : Int32)), .unset, .unset] [])) (fun t k => XS.ifNo X0.here hx rfl (hb hby at_19) rfl ((if0 _ _).trans (feq (by rw [hc9_15]; decide)).1) k) ?_
    refine own_go (B := s₁.setTop (mkF m 23 #[.val (.int p1), .val (.int ((p1 &&& (2147483647 : Int32)) % (3 : Int32))), .val (.int (0 : Int32)), .unset, .unset] [(.int (1 : Int32))])) (fun t k => XS.iconst X0.here hx rfl (hb hby at_22) k) ?_
    refine own_go (B := s₁.setTop (mkF m 27 #[.val (.int p1), .val (.int ((p1 &&& (2147483647 : Int32)) % (3 : Int32))), .val (.int (0 : Int32)), .unset, .unset] [(.int (1 : Int32))])) (fun t k => XS.goto X0.here hx rfl (pc0 := 23) (pc' := 27) rfl (hb hby at_23) (by decide) (by decide) k) ?_
    refine own_go (B := s₁.setTop (mkF m 28 #[.val (.int p1), .val (.int ((p1 &&& (2147483647 : Int32)) % (3 : Int32))), .val (.int (0 : Int32)), .val (.int (1 : Int32)), .unset] [])) (fun t k => XS.istoreN X0.here hx rfl (hb hby at_27) rfl (l' := #[.val (.int p1), .val (.int ((p1 &&& (2147483647 : Int32)) % (3 : Int32))), .val (.int (0 : Int32)), .val (.int (1 : Int32)), .unset]) rfl k) ?_
    refine own_go (B := s₁.setTop (mkF m 29 #[.val (.int p1), .val (.int ((p1 &&& (2147483647 : Int32)) % (3 : Int32))), .val (.int (0 : Int32)), .val (.int (1 : Int32)), .unset] [(.int (0 : Int32))])) (fun t k => XS.iloadN X0.here hx rfl (hb hby at_28) rfl k) ?_
    refine own_go (B := s₁.setTop (mkF m 30 #[.val (.int p1), .val (.int ((p1 &&& (2147483647 : Int32)) % (3 : Int32))), .val (.int (0 : Int32)), .val (.int (1 : Int32)), .unset] [(.int (1 : Int32)), (.int (0 : Int32))])) (fun t k => XS.iloadN X0.here hx rfl (hb hby at_29) rfl k) ?_
    obtain ⟨_, _, ⟨T17, L17, k17, n17⟩, -, X17, ⟨Lc17, hQ17, l17, y17, z17⟩, st17⟩ := Jvm.LawKit.callS X0 hx (y := (⟨"com/example/interleave/interleave/engine/LockType", "covering", "(ZZ)Lcom/example/interleave/interleave/engine/LockType;"⟩ : MethodName)) hown (mvT hZ (hw _ (List.mem_of_getElem? (i := 1) rfl))) (mvT hZ (hw _ (List.mem_of_getElem? (i := 2) rfl))) (mvT hZ (hw _ (List.mem_of_getElem? (i := 3) rfl))) (mvT hZ (hw _ (List.mem_of_getElem? (i := 4) rfl))) (by decide) (backOf (W := 0) (own_rm_covering l Z a0 hw [] (0 : Int32) (1 : Int32) w_RECORD w_NEXT_KEY w_GAP w_GAP h0 n0 O0 S_RECORD S_NEXT_KEY S_GAP (by simp)) hZ (hw _ (List.mem_of_getElem? (i := 4) rfl)) (hw _ (List.mem_of_getElem? (i := 3) rfl)) (by decide) (by decide)) (g := (mkF m 30 #[.val (.int p1), .val (.int ((p1 &&& (2147483647 : Int32)) % (3 : Int32))), .val (.int (0 : Int32)), .val (.int (1 : Int32)), .unset] [(.int (1 : Int32)), (.int (0 : Int32))])) rfl (by rw [hml]; rfl) (argsL := [(.int (0 : Int32)), (.int (1 : Int32))]) (rest := []) (lenOf own_pd_0 rfl) rfl (by show 2 * 0 + _ ≤ _; exact Nat.le_of_eq rfl) (hb hby at_30) (fun _ _ => ⟨rfl, e0, (by decide : 0 + 0 ≤ _), (by decide : 0 + 0 ≤ _)⟩)
    dsimp only [Pt.U, Pt.locs, Pt.cells, Pt.slots] at X17 l17 y17 z17 st17 hQ17
    subst l17 y17 z17
    obtain ⟨rfl, N17q, eh17⟩ := hQ17
    have N17 := Fr.app N0 N17q
    refine own_go (B := T17.setTop (mkF m 33 #[.val (.int p1), .val (.int ((p1 &&& (2147483647 : Int32)) % (3 : Int32))), .val (.int (0 : Int32)), .val (.int (1 : Int32)), .unset] [(.ref w_GAP)])) (fun t k => st17 _ k) ?_
    refine own_go (B := T17.setTop (mkF m 35 #[.val (.int p1), .val (.int ((p1 &&& (2147483647 : Int32)) % (3 : Int32))), .val (.int (0 : Int32)), .val (.int (1 : Int32)), .val (.ref w_GAP)] [])) (fun t k => XS.astore X17.here hx rfl (hb hby at_33) rfl rfl (l' := #[.val (.int p1), .val (.int ((p1 &&& (2147483647 : Int32)) % (3 : Int32))), .val (.int (0 : Int32)), .val (.int (1 : Int32)), .val (.ref w_GAP)]) rfl k) ?_
    refine own_go (B := T17.setTop (mkF m 37 #[.val (.int p1), .val (.int ((p1 &&& (2147483647 : Int32)) % (3 : Int32))), .val (.int (0 : Int32)), .val (.int (1 : Int32)), .val (.ref w_GAP)] [(.ref w_GAP)])) (fun t k => XS.aload X17.here hx rfl (hb hby at_35) rfl rfl k) ?_
    refine own_go (B := T17.setTop (mkF m 42 #[.val (.int p1), .val (.int ((p1 &&& (2147483647 : Int32)) % (3 : Int32))), .val (.int (0 : Int32)), .val (.int (1 : Int32)), .val (.ref w_GAP)] [])) (fun t k => XS.ifnonnullYes X17.here hx rfl (pc0 := 37) (pc' := 42) rfl (hb hby at_37) rfl (by decide) (by decide) k) ?_
    refine own_go (B := T17.setTop (mkF m 44 #[.val (.int p1), .val (.int ((p1 &&& (2147483647 : Int32)) % (3 : Int32))), .val (.int (0 : Int32)), .val (.int (1 : Int32)), .val (.ref w_GAP)] [(.ref w_GAP)])) (fun t k => XS.aload X17.here hx rfl (hb hby at_42) rfl rfl k) ?_
    obtain ⟨cq18, kq18, q18a, q18b, q18c⟩ := isOf hZ eh17 (E_GAP.ext O0.2)
    obtain ⟨_, _, ⟨T18, L18, k18, n18⟩, -, X18, ⟨Lc18, hQ18, l18, y18, z18⟩, st18⟩ := X17.virtualBack hx (y := (⟨"com/example/interleave/interleave/engine/LockType", "coversRecord", "()Z"⟩ : MethodName)) (z := (⟨"com/example/interleave/interleave/engine/LockType", "coversRecord", "()Z"⟩ : MethodName)) hown (mvT hZ (hw _ (List.mem_of_getElem? (i := 7) rfl))) (mvT hZ (hw _ (List.mem_of_getElem? (i := 8) rfl))) (notFace_of_selects (args := #[]) (mvT hZ (hw _ (List.mem_of_getElem? (i := 10) rfl)))) (mvT hZ (hw _ (List.mem_of_getElem? (i := 10) rfl))) (mvT hZ (hw _ (List.mem_of_getElem? (i := 9) rfl))) (by decide) (backOf (W := 0) (own_rm_coversRecord l Z a0 hw [] w_GAP (0 : Int32) h0 n0 O0 F_GAP_record rfl) hZ (hw _ (List.mem_of_getElem? (i := 11) rfl)) (hw _ (List.mem_of_getElem? (i := 3) rfl)) (by decide) (by decide)) q18a q18c (g := (mkF m 44 #[.val (.int p1), .val (.int ((p1 &&& (2147483647 : Int32)) % (3 : Int32))), .val (.int (0 : Int32)), .val (.int (1 : Int32)), .val (.ref w_GAP)] [(.ref w_GAP)])) rfl (by rw [hml]; rfl) (Steps.refl _) (argsL := []) (rest := []) (lenOf own_pd_1 rfl) rfl (by show 2 * 0 + _ ≤ _; exact Nat.le_of_eq rfl) (hb hby at_44) (fun _ _ => ⟨rfl, eh17, (by decide : 0 + 0 ≤ _), (by decide : 0 + 0 ≤ _)⟩)
    dsimp only [Pt.U, Pt.locs, Pt.cells, Pt.slots] at X18 l18 y18 z18 st18 hQ18
    subst l18 y18 z18
    obtain ⟨rfl, N18q, eh18⟩ := hQ18
    have N18 := Fr.app N17 N18q
    refine own_go (B := T18.setTop (mkF m 47 #[.val (.int p1), .val (.int ((p1 &&& (2147483647 : Int32)) % (3 : Int32))), .val (.int (0 : Int32)), .val (.int (1 : Int32)), .val (.ref w_GAP)] [(.int (0 : Int32))])) (fun t k => st18.trans k) ?_
    refine own_go (B := T18.setTop (mkF m 48 #[.val (.int p1), .val (.int ((p1 &&& (2147483647 : Int32)) % (3 : Int32))), .val (.int (0 : Int32)), .val (.int (1 : Int32)), .val (.ref w_GAP)] [(.int (0 : Int32)), (.int (0 : Int32))])) (fun t k => XS.iloadN X18.here hx rfl (hb hby at_47) rfl k) ?_
    refine own_go (B := T18.setTop (mkF m 51 #[.val (.int p1), .val (.int ((p1 &&& (2147483647 : Int32)) % (3 : Int32))), .val (.int (0 : Int32)), .val (.int (1 : Int32)), .val (.ref w_GAP)] [])) (fun t k => XS.icmpNo X18.here hx rfl (hb hby at_48) rfl (teq (by decide : (0 : Int32) = (0 : Int32))).2 k) ?_
    refine own_go (B := T18.setTop (mkF m 53 #[.val (.int p1), .val (.int ((p1 &&& (2147483647 : Int32)) % (3 : Int32))), .val (.int (0 : Int32)), .val (.int (1 : Int32)), .val (.ref w_GAP)] [(.ref w_GAP)])) (fun t k => XS.aload X18.here hx rfl (hb hby at_51) rfl rfl k) ?_
    obtain ⟨cq20, kq20, q20a, q20b, q20c⟩ := isOf hZ eh18 (E_GAP.ext O0.2)
    obtain ⟨_, _, ⟨T20, L20, k20, n20⟩, -, X20, ⟨Lc20, hQ20, l20, y20, z20⟩, st20⟩ := X18.virtualBack hx (y := (⟨"com/example/interleave/interleave/engine/LockType", "coversGap", "()Z"⟩ : MethodName)) (z := (⟨"com/example/interleave/interleave/engine/LockType", "coversGap", "()Z"⟩ : MethodName)) hown (mvT hZ (hw _ (List.mem_of_getElem? (i := 14) rfl))) (mvT hZ (hw _ (List.mem_of_getElem? (i := 15) rfl))) (notFace_of_selects (args := #[]) (mvT hZ (hw _ (List.mem_of_getElem? (i := 17) rfl)))) (mvT hZ (hw _ (List.mem_of_getElem? (i := 17) rfl))) (mvT hZ (hw _ (List.mem_of_getElem? (i := 16) rfl))) (by decide) (backOf (W := 0) (own_rm_coversGap l Z a0 hw [] w_GAP (1 : Int32) h0 n0 O0 F_GAP_gap rfl) hZ (hw _ (List.mem_of_getElem? (i := 18) rfl)) (hw _ (List.mem_of_getElem? (i := 3) rfl)) (by decide) (by decide)) q20a q20c (g := (mkF m 53 #[.val (.int p1), .val (.int ((p1 &&& (2147483647 : Int32)) % (3 : Int32))), .val (.int (0 : Int32)), .val (.int (1 : Int32)), .val (.ref w_GAP)] [(.ref w_GAP)])) rfl (by rw [hml]; rfl) (Steps.refl _) (argsL := []) (rest := []) (lenOf own_pd_1 rfl) rfl (by show 2 * 0 + _ ≤ _; exact Nat.le_of_eq rfl) (hb hby at_53) (fun _ _ => ⟨rfl, eh18, (by decide : 0 + 0 ≤ _), (by decide : 0 + 0 ≤ _)⟩)
    dsimp only [Pt.U, Pt.locs, Pt.cells, Pt.slots] at X20 l20 y20 z20 st20 hQ20
    subst l20 y20 z20
    obtain ⟨rfl, N20q, eh20⟩ := hQ20
    have N20 := Fr.app N18 N20q
    refine own_go (B := T20.setTop (mkF m 56 #[.val (.int p1), .val (.int ((p1 &&& (2147483647 : Int32)) % (3 : Int32))), .val (.int (0 : Int32)), .val (.int (1 : Int32)), .val (.ref w_GAP)] [(.int (1 : Int32))])) (fun t k => st20.trans k) ?_
    refine own_go (B := T20.setTop (mkF m 57 #[.val (.int p1), .val (.int ((p1 &&& (2147483647 : Int32)) % (3 : Int32))), .val (.int (0 : Int32)), .val (.int (1 : Int32)), .val (.ref w_GAP)] [(.int (1 : Int32)), (.int (1 : Int32))])) (fun t k => XS.iloadN X20.here hx rfl (hb hby at_56) rfl k) ?_
    refine own_go (B := T20.setTop (mkF m 60 #[.val (.int p1), .val (.int ((p1 &&& (2147483647 : Int32)) % (3 : Int32))), .val (.int (0 : Int32)), .val (.int (1 : Int32)), .val (.ref w_GAP)] [])) (fun t k => XS.icmpNo X20.here hx rfl (hb hby at_57) rfl (teq (by decide : (1 : Int32) = (1 : Int32))).2 k) ?_
    refine own_go (B := T20.setTop (mkF m 61 #[.val (.int p1), .val (.int ((p1 &&& (2147483647 : Int32)) % (3 : Int32))), .val (.int (0 : Int32)), .val (.int (1 : Int32)), .val (.ref w_GAP)] [(.int (1 : Int32))])) (fun t k => XS.iconst X20.here hx rfl (hb hby at_60) k) ?_
    refine own_go (B := T20.setTop (mkF m 65 #[.val (.int p1), .val (.int ((p1 &&& (2147483647 : Int32)) % (3 : Int32))), .val (.int (0 : Int32)), .val (.int (1 : Int32)), .val (.ref w_GAP)] [(.int (1 : Int32))])) (fun t k => XS.goto X20.here hx rfl (pc0 := 61) (pc' := 65) rfl (hb hby at_61) (by decide) (by decide) k) ?_
    obtain ⟨fs, hr, hrun, hended, hW, hsame⟩ := X20.leave (v := some (.int (1 : Int32))) (fun h => by rw [Bd.returns] at h; cases h)
    refine ⟨_, _, retN X20 hx (t := .boolean) Bd.returns (by simp) (hb hby at_65) hr, hK _ _ ⟨hrun, hended, _, _, rfl, ?_, ⟨_, rfl⟩, hW, hsame.mono (by decide) (by decide)⟩⟩
    show own_Q_law Z p1 w_RECORD w_NEXT_KEY w_GAP h0 n0 _ T20.heap _
    rw [eh20]
    exact ⟨rfl, N20⟩
  · refine own_go (B := s₁.setTop (mkF m 12 #[.val (.int p1), .val (.int ((p1 &&& (2147483647 : Int32)) % (3 : Int32))), .unset, .unset, .unset] [])) (fun t k => XS.icmpNo X0.here hx rfl (hb hby at_9) rfl (feq hc9_15).1 k) ?_
    refine own_go (B := s₁.setTop (mkF m 13 #[.val (.int p1), .val (.int ((p1 &&& (2147483647 : Int32)) % (3 : Int32))), .unset, .unset, .unset] [(.int (1 : Int32))])) (fun t k => XS.iconst X0.here hx rfl (hb hby at_12) k) ?_
    refine own_go (B := s₁.setTop (mkF m 17 #[.val (.int p1), .val (.int ((p1 &&& (2147483647 : Int32)) % (3 : Int32))), .unset, .unset, .unset] [(.int (1 : Int32))])) (fun t k => XS.goto X0.here hx rfl (pc0 := 13) (pc' := 17) rfl (hb hby at_13) (by decide) (by decide) k) ?_
    refine own_go (B := s₁.setTop (mkF m 18 #[.val (.int p1), .val (.int ((p1 &&& (2147483647 : Int32)) % (3 : Int32))), .val (.int (1 : Int32)), .unset, .unset] [])) (fun t k => XS.istoreN X0.here hx rfl (hb hby at_17) rfl (l' := #[.val (.int p1), .val (.int ((p1 &&& (2147483647 : Int32)) % (3 : Int32))), .val (.int (1 : Int32)), .unset, .unset]) rfl k) ?_
    refine own_go (B := s₁.setTop (mkF m 19 #[.val (.int p1), .val (.int ((p1 &&& (2147483647 : Int32)) % (3 : Int32))), .val (.int (1 : Int32)), .unset, .unset] [(.int ((p1 &&& (2147483647 : Int32)) % (3 : Int32)))])) (fun t k => XS.iloadN X0.here hx rfl (hb hby at_18) rfl k) ?_
    by_cases hc19_23 : ((p1 &&& (2147483647 : Int32)) % (3 : Int32)) = (0 : Int32)
    · refine own_go (B := s₁.setTop (mkF m 26 #[.val (.int p1), .val (.int ((p1 &&& (2147483647 : Int32)) % (3 : Int32))), .val (.int (1 : Int32)), .unset, .unset] [])) (fun t k => XS.ifYes X0.here hx rfl (pc0 := 19) (pc' := 26) rfl (hb hby at_19) rfl ((if0 _ _).trans (teq hc19_23).1) (by decide) (by decide) k) ?_
      refine own_go (B := s₁.setTop (mkF m 27 #[.val (.int p1), .val (.int ((p1 &&& (2147483647 : Int32)) % (3 : Int32))), .val (.int (1 : Int32)), .unset, .unset] [(.int (0 : Int32))])) (fun t k => XS.iconst X0.here hx rfl (hb hby at_26) k) ?_
      refine own_go (B := s₁.setTop (mkF m 28 #[.val (.int p1), .val (.int ((p1 &&& (2147483647 : Int32)) % (3 : Int32))), .val (.int (1 : Int32)), .val (.int (0 : Int32)), .unset] [])) (fun t k => XS.istoreN X0.here hx rfl (hb hby at_27) rfl (l' := #[.val (.int p1), .val (.int ((p1 &&& (2147483647 : Int32)) % (3 : Int32))), .val (.int (1 : Int32)), .val (.int (0 : Int32)), .unset]) rfl k) ?_
      refine own_go (B := s₁.setTop (mkF m 29 #[.val (.int p1), .val (.int ((p1 &&& (2147483647 : Int32)) % (3 : Int32))), .val (.int (1 : Int32)), .val (.int (0 : Int32)), .unset] [(.int (1 : Int32))])) (fun t k => XS.iloadN X0.here hx rfl (hb hby at_28) rfl k) ?_
      refine own_go (B := s₁.setTop (mkF m 30 #[.val (.int p1), .val (.int ((p1 &&& (2147483647 : Int32)) % (3 : Int32))), .val (.int (1 : Int32)), .val (.int (0 : Int32)), .unset] [(.int (0 : Int32)), (.int (1 : Int32))])) (fun t k => XS.iloadN X0.here hx rfl (hb hby at_29) rfl k) ?_
      obtain ⟨_, _, ⟨T24, L24, k24, n24⟩, -, X24, ⟨Lc24, hQ24, l24, y24, z24⟩, st24⟩ := Jvm.LawKit.callS X0 hx (y := (⟨"com/example/interleave/interleave/engine/LockType", "covering", "(ZZ)Lcom/example/interleave/interleave/engine/LockType;"⟩ : MethodName)) hown (mvT hZ (hw _ (List.mem_of_getElem? (i := 1) rfl))) (mvT hZ (hw _ (List.mem_of_getElem? (i := 2) rfl))) (mvT hZ (hw _ (List.mem_of_getElem? (i := 3) rfl))) (mvT hZ (hw _ (List.mem_of_getElem? (i := 4) rfl))) (by decide) (backOf (W := 0) (own_rm_covering l Z a0 hw [] (1 : Int32) (0 : Int32) w_RECORD w_NEXT_KEY w_GAP w_RECORD h0 n0 O0 S_RECORD S_NEXT_KEY S_GAP (by simp)) hZ (hw _ (List.mem_of_getElem? (i := 4) rfl)) (hw _ (List.mem_of_getElem? (i := 3) rfl)) (by decide) (by decide)) (g := (mkF m 30 #[.val (.int p1), .val (.int ((p1 &&& (2147483647 : Int32)) % (3 : Int32))), .val (.int (1 : Int32)), .val (.int (0 : Int32)), .unset] [(.int (0 : Int32)), (.int (1 : Int32))])) rfl (by rw [hml]; rfl) (argsL := [(.int (1 : Int32)), (.int (0 : Int32))]) (rest := []) (lenOf own_pd_0 rfl) rfl (by show 2 * 0 + _ ≤ _; exact Nat.le_of_eq rfl) (hb hby at_30) (fun _ _ => ⟨rfl, e0, (by decide : 0 + 0 ≤ _), (by decide : 0 + 0 ≤ _)⟩)
      dsimp only [Pt.U, Pt.locs, Pt.cells, Pt.slots] at X24 l24 y24 z24 st24 hQ24
      subst l24 y24 z24
      obtain ⟨rfl, N24q, eh24⟩ := hQ24
      have N24 := Fr.app N0 N24q
      refine own_go (B := T24.setTop (mkF m 33 #[.val (.int p1), .val (.int ((p1 &&& (2147483647 : Int32)) % (3 : Int32))), .val (.int (1 : Int32)), .val (.int (0 : Int32)), .unset] [(.ref w_RECORD)])) (fun t k => st24 _ k) ?_
      refine own_go (B := T24.setTop (mkF m 35 #[.val (.int p1), .val (.int ((p1 &&& (2147483647 : Int32)) % (3 : Int32))), .val (.int (1 : Int32)), .val (.int (0 : Int32)), .val (.ref w_RECORD)] [])) (fun t k => XS.astore X24.here hx rfl (hb hby at_33) rfl rfl (l' := #[.val (.int p1), .val (.int ((p1 &&& (2147483647 : Int32)) % (3 : Int32))), .val (.int (1 : Int32)), .val (.int (0 : Int32)), .val (.ref w_RECORD)]) rfl k) ?_
      refine own_go (B := T24.setTop (mkF m 37 #[.val (.int p1), .val (.int ((p1 &&& (2147483647 : Int32)) % (3 : Int32))), .val (.int (1 : Int32)), .val (.int (0 : Int32)), .val (.ref w_RECORD)] [(.ref w_RECORD)])) (fun t k => XS.aload X24.here hx rfl (hb hby at_35) rfl rfl k) ?_
      refine own_go (B := T24.setTop (mkF m 42 #[.val (.int p1), .val (.int ((p1 &&& (2147483647 : Int32)) % (3 : Int32))), .val (.int (1 : Int32)), .val (.int (0 : Int32)), .val (.ref w_RECORD)] [])) (fun t k => XS.ifnonnullYes X24.here hx rfl (pc0 := 37) (pc' := 42) rfl (hb hby at_37) rfl (by decide) (by decide) k) ?_
      refine own_go (B := T24.setTop (mkF m 44 #[.val (.int p1), .val (.int ((p1 &&& (2147483647 : Int32)) % (3 : Int32))), .val (.int (1 : Int32)), .val (.int (0 : Int32)), .val (.ref w_RECORD)] [(.ref w_RECORD)])) (fun t k => XS.aload X24.here hx rfl (hb hby at_42) rfl rfl k) ?_
      obtain ⟨cq25, kq25, q25a, q25b, q25c⟩ := isOf hZ eh24 (E_RECORD.ext O0.2)
      obtain ⟨_, _, ⟨T25, L25, k25, n25⟩, -, X25, ⟨Lc25, hQ25, l25, y25, z25⟩, st25⟩ := X24.virtualBack hx (y := (⟨"com/example/interleave/interleave/engine/LockType", "coversRecord", "()Z"⟩ : MethodName)) (z := (⟨"com/example/interleave/interleave/engine/LockType", "coversRecord", "()Z"⟩ : MethodName)) hown (mvT hZ (hw _ (List.mem_of_getElem? (i := 7) rfl))) (mvT hZ (hw _ (List.mem_of_getElem? (i := 8) rfl))) (notFace_of_selects (args := #[]) (mvT hZ (hw _ (List.mem_of_getElem? (i := 10) rfl)))) (mvT hZ (hw _ (List.mem_of_getElem? (i := 10) rfl))) (mvT hZ (hw _ (List.mem_of_getElem? (i := 9) rfl))) (by decide) (backOf (W := 0) (own_rm_coversRecord l Z a0 hw [] w_RECORD (1 : Int32) h0 n0 O0 F_RECORD_record rfl) hZ (hw _ (List.mem_of_getElem? (i := 11) rfl)) (hw _ (List.mem_of_getElem? (i := 3) rfl)) (by decide) (by decide)) q25a q25c (g := (mkF m 44 #[.val (.int p1), .val (.int ((p1 &&& (2147483647 : Int32)) % (3 : Int32))), .val (.int (1 : Int32)), .val (.int (0 : Int32)), .val (.ref w_RECORD)] [(.ref w_RECORD)])) rfl (by rw [hml]; rfl) (Steps.refl _) (argsL := []) (rest := []) (lenOf own_pd_1 rfl) rfl (by show 2 * 0 + _ ≤ _; exact Nat.le_of_eq rfl) (hb hby at_44) (fun _ _ => ⟨rfl, eh24, (by decide : 0 + 0 ≤ _), (by decide : 0 + 0 ≤ _)⟩)
      dsimp only [Pt.U, Pt.locs, Pt.cells, Pt.slots] at X25 l25 y25 z25 st25 hQ25
      subst l25 y25 z25
      obtain ⟨rfl, N25q, eh25⟩ := hQ25
      have N25 := Fr.app N24 N25q
      refine own_go (B := T25.setTop (mkF m 47 #[.val (.int p1), .val (.int ((p1 &&& (2147483647 : Int32)) % (3 : Int32))), .val (.int (1 : Int32)), .val (.int (0 : Int32)), .val (.ref w_RECORD)] [(.int (1 : Int32))])) (fun t k => st25.trans k) ?_
      refine own_go (B := T25.setTop (mkF m 48 #[.val (.int p1), .val (.int ((p1 &&& (2147483647 : Int32)) % (3 : Int32))), .val (.int (1 : Int32)), .val (.int (0 : Int32)), .val (.ref w_RECORD)] [(.int (1 : Int32)), (.int (1 : Int32))])) (fun t k => XS.iloadN X25.here hx rfl (hb hby at_47) rfl k) ?_
      refine own_go (B := T25.setTop (mkF m 51 #[.val (.int p1), .val (.int ((p1 &&& (2147483647 : Int32)) % (3 : Int32))), .val (.int (1 : Int32)), .val (.int (0 : Int32)), .val (.ref w_RECORD)] [])) (fun t k => XS.icmpNo X25.here hx rfl (hb hby at_48) rfl (teq (by decide : (1 : Int32) = (1 : Int32))).2 k) ?_
      refine own_go (B := T25.setTop (mkF m 53 #[.val (.int p1), .val (.int ((p1 &&& (2147483647 : Int32)) % (3 : Int32))), .val (.int (1 : Int32)), .val (.int (0 : Int32)), .val (.ref w_RECORD)] [(.ref w_RECORD)])) (fun t k => XS.aload X25.here hx rfl (hb hby at_51) rfl rfl k) ?_
      obtain ⟨cq27, kq27, q27a, q27b, q27c⟩ := isOf hZ eh25 (E_RECORD.ext O0.2)
      obtain ⟨_, _, ⟨T27, L27, k27, n27⟩, -, X27, ⟨Lc27, hQ27, l27, y27, z27⟩, st27⟩ := X25.virtualBack hx (y := (⟨"com/example/interleave/interleave/engine/LockType", "coversGap", "()Z"⟩ : MethodName)) (z := (⟨"com/example/interleave/interleave/engine/LockType", "coversGap", "()Z"⟩ : MethodName)) hown (mvT hZ (hw _ (List.mem_of_getElem? (i := 14) rfl))) (mvT hZ (hw _ (List.mem_of_getElem? (i := 15) rfl))) (notFace_of_selects (args := #[]) (mvT hZ (hw _ (List.mem_of_getElem? (i := 17) rfl)))) (mvT hZ (hw _ (List.mem_of_getElem? (i := 17) rfl))) (mvT hZ (hw _ (List.mem_of_getElem? (i := 16) rfl))) (by decide) (backOf (W := 0) (own_rm_coversGap l Z a0 hw [] w_RECORD (0 : Int32) h0 n0 O0 F_RECORD_gap rfl) hZ (hw _ (List.mem_of_getElem? (i := 18) rfl)) (hw _ (List.mem_of_getElem? (i := 3) rfl)) (by decide) (by decide)) q27a q27c (g := (mkF m 53 #[.val (.int p1), .val (.int ((p1 &&& (2147483647 : Int32)) % (3 : Int32))), .val (.int (1 : Int32)), .val (.int (0 : Int32)), .val (.ref w_RECORD)] [(.ref w_RECORD)])) rfl (by rw [hml]; rfl) (Steps.refl _) (argsL := []) (rest := []) (lenOf own_pd_1 rfl) rfl (by show 2 * 0 + _ ≤ _; exact Nat.le_of_eq rfl) (hb hby at_53) (fun _ _ => ⟨rfl, eh25, (by decide : 0 + 0 ≤ _), (by decide : 0 + 0 ≤ _)⟩)
      dsimp only [Pt.U, Pt.locs, Pt.cells, Pt.slots] at X27 l27 y27 z27 st27 hQ27
      subst l27 y27 z27
      obtain ⟨rfl, N27q, eh27⟩ := hQ27
      have N27 := Fr.app N25 N27q
      refine own_go (B := T27.setTop (mkF m 56 #[.val (.int p1), .val (.int ((p1 &&& (2147483647 : Int32)) % (3 : Int32))), .val (.int (1 : Int32)), .val (.int (0 : Int32)), .val (.ref w_RECORD)] [(.int (0 : Int32))])) (fun t k => st27.trans k) ?_
      refine own_go (B := T27.setTop (mkF m 57 #[.val (.int p1), .val (.int ((p1 &&& (2147483647 : Int32)) % (3 : Int32))), .val (.int (1 : Int32)), .val (.int (0 : Int32)), .val (.ref w_RECORD)] [(.int (0 : Int32)), (.int (0 : Int32))])) (fun t k => XS.iloadN X27.here hx rfl (hb hby at_56) rfl k) ?_
      refine own_go (B := T27.setTop (mkF m 60 #[.val (.int p1), .val (.int ((p1 &&& (2147483647 : Int32)) % (3 : Int32))), .val (.int (1 : Int32)), .val (.int (0 : Int32)), .val (.ref w_RECORD)] [])) (fun t k => XS.icmpNo X27.here hx rfl (hb hby at_57) rfl (teq (by decide : (0 : Int32) = (0 : Int32))).2 k) ?_
      refine own_go (B := T27.setTop (mkF m 61 #[.val (.int p1), .val (.int ((p1 &&& (2147483647 : Int32)) % (3 : Int32))), .val (.int (1 : Int32)), .val (.int (0 : Int32)), .val (.ref w_RECORD)] [(.int (1 : Int32))])) (fun t k => XS.iconst X27.here hx rfl (hb hby at_60) k) ?_
      refine own_go (B := T27.setTop (mkF m 65 #[.val (.int p1), .val (.int ((p1 &&& (2147483647 : Int32)) % (3 : Int32))), .val (.int (1 : Int32)), .val (.int (0 : Int32)), .val (.ref w_RECORD)] [(.int (1 : Int32))])) (fun t k => XS.goto X27.here hx rfl (pc0 := 61) (pc' := 65) rfl (hb hby at_61) (by decide) (by decide) k) ?_
      obtain ⟨fs, hr, hrun, hended, hW, hsame⟩ := X27.leave (v := some (.int (1 : Int32))) (fun h => by rw [Bd.returns] at h; cases h)
      refine ⟨_, _, retN X27 hx (t := .boolean) Bd.returns (by simp) (hb hby at_65) hr, hK _ _ ⟨hrun, hended, _, _, rfl, ?_, ⟨_, rfl⟩, hW, hsame.mono (by decide) (by decide)⟩⟩
      show own_Q_law Z p1 w_RECORD w_NEXT_KEY w_GAP h0 n0 _ T27.heap _
      rw [eh27]
      exact ⟨rfl, N27⟩
    · refine own_go (B := s₁.setTop (mkF m 22 #[.val (.int p1), .val (.int ((p1 &&& (2147483647 : Int32)) % (3 : Int32))), .val (.int (1 : Int32)), .unset, .unset] [])) (fun t k => XS.ifNo X0.here hx rfl (hb hby at_19) rfl ((if0 _ _).trans (feq hc19_23).1) k) ?_
      refine own_go (B := s₁.setTop (mkF m 23 #[.val (.int p1), .val (.int ((p1 &&& (2147483647 : Int32)) % (3 : Int32))), .val (.int (1 : Int32)), .unset, .unset] [(.int (1 : Int32))])) (fun t k => XS.iconst X0.here hx rfl (hb hby at_22) k) ?_
      refine own_go (B := s₁.setTop (mkF m 27 #[.val (.int p1), .val (.int ((p1 &&& (2147483647 : Int32)) % (3 : Int32))), .val (.int (1 : Int32)), .unset, .unset] [(.int (1 : Int32))])) (fun t k => XS.goto X0.here hx rfl (pc0 := 23) (pc' := 27) rfl (hb hby at_23) (by decide) (by decide) k) ?_
      refine own_go (B := s₁.setTop (mkF m 28 #[.val (.int p1), .val (.int ((p1 &&& (2147483647 : Int32)) % (3 : Int32))), .val (.int (1 : Int32)), .val (.int (1 : Int32)), .unset] [])) (fun t k => XS.istoreN X0.here hx rfl (hb hby at_27) rfl (l' := #[.val (.int p1), .val (.int ((p1 &&& (2147483647 : Int32)) % (3 : Int32))), .val (.int (1 : Int32)), .val (.int (1 : Int32)), .unset]) rfl k) ?_
      refine own_go (B := s₁.setTop (mkF m 29 #[.val (.int p1), .val (.int ((p1 &&& (2147483647 : Int32)) % (3 : Int32))), .val (.int (1 : Int32)), .val (.int (1 : Int32)), .unset] [(.int (1 : Int32))])) (fun t k => XS.iloadN X0.here hx rfl (hb hby at_28) rfl k) ?_
      refine own_go (B := s₁.setTop (mkF m 30 #[.val (.int p1), .val (.int ((p1 &&& (2147483647 : Int32)) % (3 : Int32))), .val (.int (1 : Int32)), .val (.int (1 : Int32)), .unset] [(.int (1 : Int32)), (.int (1 : Int32))])) (fun t k => XS.iloadN X0.here hx rfl (hb hby at_29) rfl k) ?_
      obtain ⟨_, _, ⟨T30, L30, k30, n30⟩, -, X30, ⟨Lc30, hQ30, l30, y30, z30⟩, st30⟩ := Jvm.LawKit.callS X0 hx (y := (⟨"com/example/interleave/interleave/engine/LockType", "covering", "(ZZ)Lcom/example/interleave/interleave/engine/LockType;"⟩ : MethodName)) hown (mvT hZ (hw _ (List.mem_of_getElem? (i := 1) rfl))) (mvT hZ (hw _ (List.mem_of_getElem? (i := 2) rfl))) (mvT hZ (hw _ (List.mem_of_getElem? (i := 3) rfl))) (mvT hZ (hw _ (List.mem_of_getElem? (i := 4) rfl))) (by decide) (backOf (W := 0) (own_rm_covering l Z a0 hw [] (1 : Int32) (1 : Int32) w_RECORD w_NEXT_KEY w_GAP w_NEXT_KEY h0 n0 O0 S_RECORD S_NEXT_KEY S_GAP (by simp)) hZ (hw _ (List.mem_of_getElem? (i := 4) rfl)) (hw _ (List.mem_of_getElem? (i := 3) rfl)) (by decide) (by decide)) (g := (mkF m 30 #[.val (.int p1), .val (.int ((p1 &&& (2147483647 : Int32)) % (3 : Int32))), .val (.int (1 : Int32)), .val (.int (1 : Int32)), .unset] [(.int (1 : Int32)), (.int (1 : Int32))])) rfl (by rw [hml]; rfl) (argsL := [(.int (1 : Int32)), (.int (1 : Int32))]) (rest := []) (lenOf own_pd_0 rfl) rfl (by show 2 * 0 + _ ≤ _; exact Nat.le_of_eq rfl) (hb hby at_30) (fun _ _ => ⟨rfl, e0, (by decide : 0 + 0 ≤ _), (by decide : 0 + 0 ≤ _)⟩)
      dsimp only [Pt.U, Pt.locs, Pt.cells, Pt.slots] at X30 l30 y30 z30 st30 hQ30
      subst l30 y30 z30
      obtain ⟨rfl, N30q, eh30⟩ := hQ30
      have N30 := Fr.app N0 N30q
      refine own_go (B := T30.setTop (mkF m 33 #[.val (.int p1), .val (.int ((p1 &&& (2147483647 : Int32)) % (3 : Int32))), .val (.int (1 : Int32)), .val (.int (1 : Int32)), .unset] [(.ref w_NEXT_KEY)])) (fun t k => st30 _ k) ?_
      refine own_go (B := T30.setTop (mkF m 35 #[.val (.int p1), .val (.int ((p1 &&& (2147483647 : Int32)) % (3 : Int32))), .val (.int (1 : Int32)), .val (.int (1 : Int32)), .val (.ref w_NEXT_KEY)] [])) (fun t k => XS.astore X30.here hx rfl (hb hby at_33) rfl rfl (l' := #[.val (.int p1), .val (.int ((p1 &&& (2147483647 : Int32)) % (3 : Int32))), .val (.int (1 : Int32)), .val (.int (1 : Int32)), .val (.ref w_NEXT_KEY)]) rfl k) ?_
      refine own_go (B := T30.setTop (mkF m 37 #[.val (.int p1), .val (.int ((p1 &&& (2147483647 : Int32)) % (3 : Int32))), .val (.int (1 : Int32)), .val (.int (1 : Int32)), .val (.ref w_NEXT_KEY)] [(.ref w_NEXT_KEY)])) (fun t k => XS.aload X30.here hx rfl (hb hby at_35) rfl rfl k) ?_
      refine own_go (B := T30.setTop (mkF m 42 #[.val (.int p1), .val (.int ((p1 &&& (2147483647 : Int32)) % (3 : Int32))), .val (.int (1 : Int32)), .val (.int (1 : Int32)), .val (.ref w_NEXT_KEY)] [])) (fun t k => XS.ifnonnullYes X30.here hx rfl (pc0 := 37) (pc' := 42) rfl (hb hby at_37) rfl (by decide) (by decide) k) ?_
      refine own_go (B := T30.setTop (mkF m 44 #[.val (.int p1), .val (.int ((p1 &&& (2147483647 : Int32)) % (3 : Int32))), .val (.int (1 : Int32)), .val (.int (1 : Int32)), .val (.ref w_NEXT_KEY)] [(.ref w_NEXT_KEY)])) (fun t k => XS.aload X30.here hx rfl (hb hby at_42) rfl rfl k) ?_
      obtain ⟨cq31, kq31, q31a, q31b, q31c⟩ := isOf hZ eh30 (E_NEXT_KEY.ext O0.2)
      obtain ⟨_, _, ⟨T31, L31, k31, n31⟩, -, X31, ⟨Lc31, hQ31, l31, y31, z31⟩, st31⟩ := X30.virtualBack hx (y := (⟨"com/example/interleave/interleave/engine/LockType", "coversRecord", "()Z"⟩ : MethodName)) (z := (⟨"com/example/interleave/interleave/engine/LockType", "coversRecord", "()Z"⟩ : MethodName)) hown (mvT hZ (hw _ (List.mem_of_getElem? (i := 7) rfl))) (mvT hZ (hw _ (List.mem_of_getElem? (i := 8) rfl))) (notFace_of_selects (args := #[]) (mvT hZ (hw _ (List.mem_of_getElem? (i := 10) rfl)))) (mvT hZ (hw _ (List.mem_of_getElem? (i := 10) rfl))) (mvT hZ (hw _ (List.mem_of_getElem? (i := 9) rfl))) (by decide) (backOf (W := 0) (own_rm_coversRecord l Z a0 hw [] w_NEXT_KEY (1 : Int32) h0 n0 O0 F_NEXT_KEY_record rfl) hZ (hw _ (List.mem_of_getElem? (i := 11) rfl)) (hw _ (List.mem_of_getElem? (i := 3) rfl)) (by decide) (by decide)) q31a q31c (g := (mkF m 44 #[.val (.int p1), .val (.int ((p1 &&& (2147483647 : Int32)) % (3 : Int32))), .val (.int (1 : Int32)), .val (.int (1 : Int32)), .val (.ref w_NEXT_KEY)] [(.ref w_NEXT_KEY)])) rfl (by rw [hml]; rfl) (Steps.refl _) (argsL := []) (rest := []) (lenOf own_pd_1 rfl) rfl (by show 2 * 0 + _ ≤ _; exact Nat.le_of_eq rfl) (hb hby at_44) (fun _ _ => ⟨rfl, eh30, (by decide : 0 + 0 ≤ _), (by decide : 0 + 0 ≤ _)⟩)
      dsimp only [Pt.U, Pt.locs, Pt.cells, Pt.slots] at X31 l31 y31 z31 st31 hQ31
      subst l31 y31 z31
      obtain ⟨rfl, N31q, eh31⟩ := hQ31
      have N31 := Fr.app N30 N31q
      refine own_go (B := T31.setTop (mkF m 47 #[.val (.int p1), .val (.int ((p1 &&& (2147483647 : Int32)) % (3 : Int32))), .val (.int (1 : Int32)), .val (.int (1 : Int32)), .val (.ref w_NEXT_KEY)] [(.int (1 : Int32))])) (fun t k => st31.trans k) ?_
      refine own_go (B := T31.setTop (mkF m 48 #[.val (.int p1), .val (.int ((p1 &&& (2147483647 : Int32)) % (3 : Int32))), .val (.int (1 : Int32)), .val (.int (1 : Int32)), .val (.ref w_NEXT_KEY)] [(.int (1 : Int32)), (.int (1 : Int32))])) (fun t k => XS.iloadN X31.here hx rfl (hb hby at_47) rfl k) ?_
      refine own_go (B := T31.setTop (mkF m 51 #[.val (.int p1), .val (.int ((p1 &&& (2147483647 : Int32)) % (3 : Int32))), .val (.int (1 : Int32)), .val (.int (1 : Int32)), .val (.ref w_NEXT_KEY)] [])) (fun t k => XS.icmpNo X31.here hx rfl (hb hby at_48) rfl (teq (by decide : (1 : Int32) = (1 : Int32))).2 k) ?_
      refine own_go (B := T31.setTop (mkF m 53 #[.val (.int p1), .val (.int ((p1 &&& (2147483647 : Int32)) % (3 : Int32))), .val (.int (1 : Int32)), .val (.int (1 : Int32)), .val (.ref w_NEXT_KEY)] [(.ref w_NEXT_KEY)])) (fun t k => XS.aload X31.here hx rfl (hb hby at_51) rfl rfl k) ?_
      obtain ⟨cq33, kq33, q33a, q33b, q33c⟩ := isOf hZ eh31 (E_NEXT_KEY.ext O0.2)
      obtain ⟨_, _, ⟨T33, L33, k33, n33⟩, -, X33, ⟨Lc33, hQ33, l33, y33, z33⟩, st33⟩ := X31.virtualBack hx (y := (⟨"com/example/interleave/interleave/engine/LockType", "coversGap", "()Z"⟩ : MethodName)) (z := (⟨"com/example/interleave/interleave/engine/LockType", "coversGap", "()Z"⟩ : MethodName)) hown (mvT hZ (hw _ (List.mem_of_getElem? (i := 14) rfl))) (mvT hZ (hw _ (List.mem_of_getElem? (i := 15) rfl))) (notFace_of_selects (args := #[]) (mvT hZ (hw _ (List.mem_of_getElem? (i := 17) rfl)))) (mvT hZ (hw _ (List.mem_of_getElem? (i := 17) rfl))) (mvT hZ (hw _ (List.mem_of_getElem? (i := 16) rfl))) (by decide) (backOf (W := 0) (own_rm_coversGap l Z a0 hw [] w_NEXT_KEY (1 : Int32) h0 n0 O0 F_NEXT_KEY_gap rfl) hZ (hw _ (List.mem_of_getElem? (i := 18) rfl)) (hw _ (List.mem_of_getElem? (i := 3) rfl)) (by decide) (by decide)) q33a q33c (g := (mkF m 53 #[.val (.int p1), .val (.int ((p1 &&& (2147483647 : Int32)) % (3 : Int32))), .val (.int (1 : Int32)), .val (.int (1 : Int32)), .val (.ref w_NEXT_KEY)] [(.ref w_NEXT_KEY)])) rfl (by rw [hml]; rfl) (Steps.refl _) (argsL := []) (rest := []) (lenOf own_pd_1 rfl) rfl (by show 2 * 0 + _ ≤ _; exact Nat.le_of_eq rfl) (hb hby at_53) (fun _ _ => ⟨rfl, eh31, (by decide : 0 + 0 ≤ _), (by decide : 0 + 0 ≤ _)⟩)
      dsimp only [Pt.U, Pt.locs, Pt.cells, Pt.slots] at X33 l33 y33 z33 st33 hQ33
      subst l33 y33 z33
      obtain ⟨rfl, N33q, eh33⟩ := hQ33
      have N33 := Fr.app N31 N33q
      refine own_go (B := T33.setTop (mkF m 56 #[.val (.int p1), .val (.int ((p1 &&& (2147483647 : Int32)) % (3 : Int32))), .val (.int (1 : Int32)), .val (.int (1 : Int32)), .val (.ref w_NEXT_KEY)] [(.int (1 : Int32))])) (fun t k => st33.trans k) ?_
      refine own_go (B := T33.setTop (mkF m 57 #[.val (.int p1), .val (.int ((p1 &&& (2147483647 : Int32)) % (3 : Int32))), .val (.int (1 : Int32)), .val (.int (1 : Int32)), .val (.ref w_NEXT_KEY)] [(.int (1 : Int32)), (.int (1 : Int32))])) (fun t k => XS.iloadN X33.here hx rfl (hb hby at_56) rfl k) ?_
      refine own_go (B := T33.setTop (mkF m 60 #[.val (.int p1), .val (.int ((p1 &&& (2147483647 : Int32)) % (3 : Int32))), .val (.int (1 : Int32)), .val (.int (1 : Int32)), .val (.ref w_NEXT_KEY)] [])) (fun t k => XS.icmpNo X33.here hx rfl (hb hby at_57) rfl (teq (by decide : (1 : Int32) = (1 : Int32))).2 k) ?_
      refine own_go (B := T33.setTop (mkF m 61 #[.val (.int p1), .val (.int ((p1 &&& (2147483647 : Int32)) % (3 : Int32))), .val (.int (1 : Int32)), .val (.int (1 : Int32)), .val (.ref w_NEXT_KEY)] [(.int (1 : Int32))])) (fun t k => XS.iconst X33.here hx rfl (hb hby at_60) k) ?_
      refine own_go (B := T33.setTop (mkF m 65 #[.val (.int p1), .val (.int ((p1 &&& (2147483647 : Int32)) % (3 : Int32))), .val (.int (1 : Int32)), .val (.int (1 : Int32)), .val (.ref w_NEXT_KEY)] [(.int (1 : Int32))])) (fun t k => XS.goto X33.here hx rfl (pc0 := 61) (pc' := 65) rfl (hb hby at_61) (by decide) (by decide) k) ?_
      obtain ⟨fs, hr, hrun, hended, hW, hsame⟩ := X33.leave (v := some (.int (1 : Int32))) (fun h => by rw [Bd.returns] at h; cases h)
      refine ⟨_, _, retN X33 hx (t := .boolean) Bd.returns (by simp) (hb hby at_65) hr, hK _ _ ⟨hrun, hended, _, _, rfl, ?_, ⟨_, rfl⟩, hW, hsame.mono (by decide) (by decide)⟩⟩
      show own_Q_law Z p1 w_RECORD w_NEXT_KEY w_GAP h0 n0 _ T33.heap _
      rw [eh33]
      exact ⟨rfl, N33⟩
set_option maxRecDepth 65536 in
set_option maxHeartbeats 40000000 in
theorem comes_1 {Post : Tables → Env → Array Value → State → Outcome → State → Prop} (hpost : ∀ tb e args s v u, (limb_1_1.after args s (.returned v) u = true ∧ limb_1_2.after args s (.returned v) u = true ∧ True) → FrameEnd s (.returned v) u (Jvm.fieldLocs frame_1_writes args s ++ Jvm.arrayLocs frame_1_arrays args s ++ Jvm.staticLocs frame_1_statics s) 0 0 → Post tb e args s (.returned v) u) :
    ArmFor flags0 classFile x code maxLocals ret World_1 tables_1 room_1 Calls_1 rest_1 Pre_1 Post := by
  intro l hfl _ _ p e ha hc hk s m args below hf hA hF happ hP
  obtain ⟨hcalls, hrest, hpre⟩ := hP
  obtain ⟨-, -, -, hnamed, -, -, -, hat⟩ := (Spec.applies_iff hf).mp happ
  obtain ⟨hg, hn⟩ := and_e (Cond.before_iff.mp (show (Jvm.Cond.and given_1 narrow_1).before args s = true from hpre))
  obtain ⟨hga, hgb⟩ := and_e hg
  obtain ⟨v0, rfl⟩ : ∃ v0 : Value, args = #[v0] := by
    have hs : args.size = 1 := by simpa [Cond.value, given_1] using hga
    obtain ⟨L⟩ := args
    match L, hs with
    | [v0], _ => exact ⟨v0, rfl⟩
  have hw := fun d (hd : d ∈ tables_1) => atoms_spec (ws := Jvm.Cond.code x code maxLocals ret :: tables_1) hat d (List.mem_cons_of_mem _ hd)
  have hfit : Fit s := fun {y c} hc i hi => by
    obtain ⟨ha, rfl⟩ := Array.getElem?_eq_some_iff.mp hc
    have q := List.all_eq_true.mp ((Array.all_eq_true_iff_forall_mem.mp hF) _ (Array.getElem_mem ha)) i (List.mem_range.mpr hi)
    simpa [Array.getElem?_eq_getElem hi] using q
  obtain ⟨p1, ep1⟩ := is_v hgb
  obtain rfl : v0 = (.int p1) := Option.some.inj ep1
  obtain ⟨hna, hnb⟩ := and_e hn
  obtain ⟨hnba, hnbb⟩ := and_e hnb
  obtain ⟨hnbba, hnbbb⟩ := and_e hnbb
  obtain ⟨hnbbba, hnbbbb⟩ := and_e hnbbb
  obtain ⟨hnbbbba, hnbbbbb⟩ := and_e hnbbbb
  obtain ⟨hnbbbbba, hnbbbbbb⟩ := and_e hnbbbbb
  obtain ⟨hnbbbbbba, hnbbbbbbb⟩ := and_e hnbbbbbb
  obtain ⟨hnbbbbbbba, hnbbbbbbbb⟩ := and_e hnbbbbbbb
  obtain ⟨w_RECORD, ev_RECORD⟩ := exa_v hna
  have S_RECORD := Sta.start ev_RECORD (Or.inr ⟨(hw _ (List.mem_of_getElem? (i := 3) rfl)), (hw _ (List.mem_of_getElem? (i := 6) rfl))⟩)
  have E_RECORD := Exa.start ev_RECORD hna
  have F_RECORD_record := own_fldI ev_RECORD hnba
  have F_RECORD_gap := own_fldI ev_RECORD hnbba
  obtain ⟨w_NEXT_KEY, ev_NEXT_KEY⟩ := exa_v hnbbba
  have S_NEXT_KEY := Sta.start ev_NEXT_KEY (Or.inr ⟨(hw _ (List.mem_of_getElem? (i := 3) rfl)), (hw _ (List.mem_of_getElem? (i := 22) rfl))⟩)
  have E_NEXT_KEY := Exa.start ev_NEXT_KEY hnbbba
  have F_NEXT_KEY_record := own_fldI ev_NEXT_KEY hnbbbba
  have F_NEXT_KEY_gap := own_fldI ev_NEXT_KEY hnbbbbba
  obtain ⟨w_GAP, ev_GAP⟩ := exa_v hnbbbbbba
  have S_GAP := Sta.start ev_GAP (Or.inr ⟨(hw _ (List.mem_of_getElem? (i := 3) rfl)), (hw _ (List.mem_of_getElem? (i := 24) rfl))⟩)
  have E_GAP := Exa.start ev_GAP hnbbbbbba
  have F_GAP_record := own_fldI ev_GAP hnbbbbbbba
  have F_GAP_gap := own_fldI ev_GAP hnbbbbbbbb
  obtain ⟨n, o, h1, h2, h3, _, L, rfl, ⟨rfl, N⟩, hq⟩ := own_rm_law l s _ hw tables_1 p1 w_RECORD w_NEXT_KEY w_GAP s.heap s.heap.size (Old.start s) S_RECORD E_RECORD F_RECORD_record F_RECORD_gap S_NEXT_KEY E_NEXT_KEY F_NEXT_KEY_record F_NEXT_KEY_gap S_GAP E_GAP F_GAP_record F_GAP_gap p e ha hc hk s m _ below hf ((Spec.applies_iff_loose hf).mp happ).1 ⟨rfl, State.Warmed39.refl s, rfl⟩ trivial
  refine ⟨n, _, h1, h2, h3, hpost _ _ _ _ _ _ ⟨Cond.after_iff.mpr rfl, Cond.after_iff.mpr (eq_i res_at (Term.int_eval (1)) rfl), trivial⟩ ⟨hq.1, hq.2.1, (hq.2.2.sift fun y hy => Or.inr (N y hy)).mono (by decide) (by decide)⟩⟩
theorem main_1_1 : Claimed_1_1 := comes_1 fun _ _ _ _ _ _ h hF => ⟨h.1, hF⟩
theorem main_1_2 : Claimed_1_2 := comes_1 fun _ _ _ _ _ _ h hF => ⟨h.2.1, hF⟩
end Jvm.Pilot.@@N@@
namespace Jvm.Pilot.@@N@@
open Jvm Jvm.ClassFile Sem Op Lib Jvm.Free Jvm.Stand Jvm.Pilot.@@N@@.Jvm.D
/-! MADE BY PROGRAM (witnessworld.py) out of the Statement's table words and the real class files: 12 classes; the members and pool entries that the words name. The judged class is class 1, her method 1. -/
namespace start1
open Jvm.ClassFile
def u (s : String) : CpInfo := .utf8 (stringToUtf16 s)
/-- a pool by its gaps: so many unusable entries, then the entry; so many at the end -/
def gap : Nat → List CpInfo → List CpInfo
  | 0, r => r
  | n + 1, r => .unusable :: gap n r
def poolList (es : List (Nat × CpInfo)) (last : Nat) : List CpInfo := es.foldr (fun e r => gap e.1 (e.2 :: r)) (gap last [])
def pool (es : List (Nat × CpInfo)) (last : Nat) : Array CpInfo := ⟨poolList es last⟩
def fileOf (pool : Array CpInfo) (this : Nat) (attrs : Array Attribute := #[]) (ms : Array MethodInfo := #[]) (fl : Nat := 33) (sup : Nat := 0) (ifs : Array Nat := #[]) (fds : Array FieldInfo := #[]) : ClassFile where
  minorVersion := 0
  majorVersion := 65
  constantPool := pool
  accessFlags := fl
  thisClass := this
  superClass := sup
  interfaces := ifs
  fields := fds
  methods := ms
  attributes := attrs
def plain (name : String) (sup : Option ClassId) : Class where
  name := name
  kind := .ordinary
  loader := none
  accessFlags := 33
  super := sup
  interfaces := #[]
  cf := none
  fields := #[]
  methods := #[]
  instanceTypes := #[]
  staticTypes := #[]
  resolved := #[]
  callSites := []
  init := .initialized
  statics := none
  mirror := none

def pool0 : Array CpInfo := pool [(5, u "<init>"), (0, u "()V"), (1, .class_ 10), (1, u "java/lang/Object")] 113

def k0m0 : Method := { name := "<init>", desc := "()V", sig := { parameters := [], returnType := none }, accessFlags := 1, code := none }
/-- java/lang/Object -/
def k0 : Class := { plain "java/lang/Object" none with
  accessFlags := 33
  interfaces := #[]
  cf := some (fileOf pool0 8 #[] #[{ accessFlags := 1, nameIndex := 5, descriptorIndex := 6, attributes := #[] }] 33 0 #[] #[])
  fields := #[]
  methods := #[k0m0]
  instanceTypes := #[]
  staticTypes := #[]
  resolved := Array.replicate 124 none
  statics := none }

def pool1 : Array CpInfo := pool [(2, .class_ 4), (1, u "java/lang/Object"), (0, u "<init>"), (0, u "()V"), (0, .integer 2147483647), (0, .methodref 9 10), (0, .class_ 11), (0, .nameAndType 12 13), (0, u "com/example/interleave/interleave/engine/LockType"), (0, u "covering"), (0, u "(ZZ)Lcom/example/interleave/interleave/engine/LockType;"), (0, .methodref 9 15), (0, .nameAndType 16 17), (0, u "coversRecord"), (0, u "()Z"), (0, .methodref 9 19), (0, .nameAndType 20 17), (0, u "coversGap"), (0, .class_ 22), (0, u "com/example/interleave/interleave/engine/LockTypeCoveringPinLaw"), (2, u "law"), (0, u "(I)Z")] 3

def k1m0 : Method := { name := "<init>", desc := "()V", sig := { parameters := [], returnType := none }, accessFlags := 1, code := none }
def k1c1 : Code := { maxStack := 2, maxLocals := 5, code := code, exceptionTable := #[], attributes := #[] }
def k1m1 : Method := { name := "law", desc := "(I)Z", sig := { parameters := [.int], returnType := some .boolean }, accessFlags := 9, code := some k1c1 }
/-- com/example/interleave/interleave/engine/LockTypeCoveringPinLaw -/
def k1 : Class := { plain "com/example/interleave/interleave/engine/LockTypeCoveringPinLaw" (some 0) with
  accessFlags := 49
  interfaces := #[]
  cf := some (fileOf pool1 21 #[] #[{ accessFlags := 1, nameIndex := 5, descriptorIndex := 6, attributes := #[] }, { accessFlags := 9, nameIndex := 25, descriptorIndex := 26, attributes := #[] }] 49 2 #[] #[])
  fields := #[]
  methods := #[k1m0, k1m1]
  instanceTypes := #[]
  staticTypes := #[]
  resolved := Array.replicate 30 none
  statics := none }

def pool2 : Array CpInfo := pool [(1, .class_ 2), (0, u "java/lang/constant/Constable"), (0, .class_ 4), (0, u "java/lang/Object")] 6

/-- java/lang/constant/Constable -/
def k2 : Class := { plain "java/lang/constant/Constable" (some 0) with
  accessFlags := 1537
  interfaces := #[]
  cf := some (fileOf pool2 1 #[] #[] 1537 3 #[] #[])
  fields := #[]
  methods := #[]
  instanceTypes := #[]
  staticTypes := #[]
  resolved := Array.replicate 11 none
  statics := none }

def pool3 : Array CpInfo := pool [(1, .class_ 2), (0, u "java/lang/Comparable"), (0, .class_ 4), (0, u "java/lang/Object")] 7

/-- java/lang/Comparable -/
def k3 : Class := { plain "java/lang/Comparable" (some 0) with
  accessFlags := 1537
  interfaces := #[]
  cf := some (fileOf pool3 1 #[] #[] 1537 3 #[] #[])
  fields := #[]
  methods := #[]
  instanceTypes := #[]
  staticTypes := #[]
  resolved := Array.replicate 12 none
  statics := none }

def pool4 : Array CpInfo := pool [(1, .class_ 2), (0, u "java/io/Serializable"), (0, .class_ 4), (0, u "java/lang/Object")] 2

/-- java/io/Serializable -/
def k4 : Class := { plain "java/io/Serializable" (some 0) with
  accessFlags := 1537
  interfaces := #[]
  cf := some (fileOf pool4 1 #[] #[] 1537 3 #[] #[])
  fields := #[]
  methods := #[]
  instanceTypes := #[]
  staticTypes := #[]
  resolved := Array.replicate 7 none
  statics := none }

def pool5 : Array CpInfo := pool [(2, .class_ 4), (1, u "java/lang/Enum"), (0, u "name"), (0, u "Ljava/lang/String;"), (2, u "ordinal"), (0, u "I"), (1, .class_ 14), (1, u "java/lang/Object"), (4, u "hash"), (86, .class_ 108), (1, u "java/lang/Enum$EnumDesc"), (2, .class_ 112), (0, u "java/lang/constant/Constable"), (0, .class_ 114), (0, u "java/lang/Comparable"), (0, .class_ 116), (0, u "java/io/Serializable")] 87

/-- java/lang/Enum -/
def k5 : Class := { plain "java/lang/Enum" (some 0) with
  accessFlags := 1057
  interfaces := #[2, 3, 4]
  cf := some (fileOf pool5 2 #[.nestMembers #[106]] #[] 1057 12 #[111, 113, 115] #[{ accessFlags := 18, nameIndex := 5, descriptorIndex := 6, attributes := #[] }, { accessFlags := 18, nameIndex := 9, descriptorIndex := 10, attributes := #[] }, { accessFlags := 2, nameIndex := 19, descriptorIndex := 10, attributes := #[] }])
  fields := #[{ name := "name", type := (.object "java/lang/String"), accessFlags := 18, slot := 0, constantValue := 0 }, { name := "ordinal", type := .int, accessFlags := 18, slot := 1, constantValue := 0 }, { name := "hash", type := .int, accessFlags := 2, slot := 2, constantValue := 0 }]
  methods := #[]
  instanceTypes := #[(.object "java/lang/String"), .int, .int]
  staticTypes := #[]
  resolved := Array.replicate 204 none
  statics := none }

def pool6 : Array CpInfo := pool [(1, .class_ 2), (0, u "com/example/interleave/interleave/engine/LockType"), (0, .fieldref 1 4), (0, .nameAndType 5 6), (0, u "RECORD"), (0, u "Lcom/example/interleave/interleave/engine/LockType;"), (0, .fieldref 1 8), (0, .nameAndType 9 6), (0, u "GAP"), (0, .fieldref 1 11), (0, .nameAndType 12 6), (0, u "NEXT_KEY"), (2, u "INSERT_INTENTION"), (2, u "$VALUES"), (0, u "[Lcom/example/interleave/interleave/engine/LockType;"), (6, .class_ 28), (1, u "java/lang/Enum"), (6, .fieldref 1 36), (0, .nameAndType 37 38), (0, u "record"), (0, u "Z"), (0, .fieldref 1 40), (0, .nameAndType 41 38), (0, u "gap"), (2, u "listed"), (0, u "Ljava/lang/String;"), (27, u "coversRecord"), (0, u "()Z"), (0, u "coversGap"), (0, u "covering"), (0, u "(ZZ)Lcom/example/interleave/interleave/engine/LockType;")] 6

def k6c0 : Code := { maxStack := 1, maxLocals := 1, code := prog_33_method_5_code, exceptionTable := #[], attributes := #[] }
def k6m0 : Method := { name := "coversRecord", desc := "()Z", sig := { parameters := [], returnType := some .boolean }, accessFlags := 0, code := some k6c0 }
def k6c1 : Code := { maxStack := 1, maxLocals := 1, code := prog_33_method_6_code, exceptionTable := #[], attributes := #[] }
def k6m1 : Method := { name := "coversGap", desc := "()Z", sig := { parameters := [], returnType := some .boolean }, accessFlags := 0, code := some k6c1 }
def k6c2 : Code := { maxStack := 1, maxLocals := 3, code := prog_33_method_7_code, exceptionTable := #[], attributes := #[] }
def k6m2 : Method := { name := "covering", desc := "(ZZ)Lcom/example/interleave/interleave/engine/LockType;", sig := { parameters := [.boolean, .boolean], returnType := some (.object "com/example/interleave/interleave/engine/LockType") }, accessFlags := 8, code := some k6c2 }
/-- com/example/interleave/interleave/engine/LockType -/
def k6 : Class := { plain "com/example/interleave/interleave/engine/LockType" (some 5) with
  accessFlags := 16432
  interfaces := #[]
  cf := some (fileOf pool6 1 #[] #[{ accessFlags := 0, nameIndex := 73, descriptorIndex := 74, attributes := #[] }, { accessFlags := 0, nameIndex := 75, descriptorIndex := 74, attributes := #[] }, { accessFlags := 8, nameIndex := 76, descriptorIndex := 77, attributes := #[] }] 16432 26 #[] #[{ accessFlags := 16409, nameIndex := 5, descriptorIndex := 6, attributes := #[] }, { accessFlags := 16409, nameIndex := 9, descriptorIndex := 6, attributes := #[] }, { accessFlags := 16409, nameIndex := 12, descriptorIndex := 6, attributes := #[] }, { accessFlags := 16409, nameIndex := 15, descriptorIndex := 6, attributes := #[] }, { accessFlags := 18, nameIndex := 37, descriptorIndex := 38, attributes := #[] }, { accessFlags := 18, nameIndex := 41, descriptorIndex := 38, attributes := #[] }, { accessFlags := 18, nameIndex := 44, descriptorIndex := 45, attributes := #[] }, { accessFlags := 4122, nameIndex := 18, descriptorIndex := 19, attributes := #[] }])
  fields := #[{ name := "RECORD", type := (.object "com/example/interleave/interleave/engine/LockType"), accessFlags := 16409, slot := 0, constantValue := 0 }, { name := "GAP", type := (.object "com/example/interleave/interleave/engine/LockType"), accessFlags := 16409, slot := 1, constantValue := 0 }, { name := "NEXT_KEY", type := (.object "com/example/interleave/interleave/engine/LockType"), accessFlags := 16409, slot := 2, constantValue := 0 }, { name := "INSERT_INTENTION", type := (.object "com/example/interleave/interleave/engine/LockType"), accessFlags := 16409, slot := 3, constantValue := 0 }, { name := "record", type := .boolean, accessFlags := 18, slot := 3, constantValue := 0 }, { name := "gap", type := .boolean, accessFlags := 18, slot := 4, constantValue := 0 }, { name := "listed", type := (.object "java/lang/String"), accessFlags := 18, slot := 5, constantValue := 0 }, { name := "$VALUES", type := (.array (.object "com/example/interleave/interleave/engine/LockType")), accessFlags := 4122, slot := 4, constantValue := 0 }]
  methods := #[k6m0, k6m1, k6m2]
  instanceTypes := #[(.object "java/lang/String"), .int, .int, .boolean, .boolean, (.object "java/lang/String")]
  staticTypes := #[(.object "com/example/interleave/interleave/engine/LockType"), (.object "com/example/interleave/interleave/engine/LockType"), (.object "com/example/interleave/interleave/engine/LockType"), (.object "com/example/interleave/interleave/engine/LockType"), (.array (.object "com/example/interleave/interleave/engine/LockType"))]
  resolved := Array.replicate 84 none
  statics := some 0 }

def pool7 : Array CpInfo := pool [(1, u "java/lang/Cloneable"), (0, .class_ 1), (0, u "java/lang/Object"), (0, .class_ 3)] 3

/-- java/lang/Cloneable -/
def k7 : Class := { plain "java/lang/Cloneable" (some 0) with
  accessFlags := 1537
  interfaces := #[]
  cf := some (fileOf pool7 2 #[] #[] 1537 4 #[] #[])
  fields := #[]
  methods := #[]
  instanceTypes := #[]
  staticTypes := #[]
  resolved := Array.replicate 8 none
  statics := none }

/-- the primitive byte -/
def k8 : Class := { plain "byte" none with kind := .primitive 'B', accessFlags := 0x411 }
/-- [B -/
def k9 : Class := { plain "[B" (some 0) with kind := .array 8 .byte, interfaces := #[7, 4], accessFlags := 1041 }

/-- the primitive int -/
def k10 : Class := { plain "int" none with kind := .primitive 'I', accessFlags := 0x411 }
/-- [I -/
def k11 : Class := { plain "[I" (some 0) with kind := .array 10 .int, interfaces := #[7, 4], accessFlags := 1041 }

def heap : Heap := #[{ cls := 6, slots := #[.ref 1, .ref 2, .ref 3, .null, .null], vm := .statics 6 },
  { cls := 6, slots := #[.null, .int 0, .int 0, .int 1, .int 0, .null], vm := .none },
  { cls := 6, slots := #[.null, .int 1, .int 0, .int 0, .int 1, .null], vm := .none },
  { cls := 6, slots := #[.null, .int 2, .int 0, .int 1, .int 1, .null], vm := .none }]
def classes : Array Class := #[k0, k1, k2, k3, k4, k5, k6, k7, k8, k9, k10, k11]
def interned : List (Array UInt16 × Addr) := []
def slotsUsed : Nat := 23
def theMethod : MethodId := ⟨1, 1⟩
def args0 : Array Value := #[.int 5]
def aboutOver (below : List Frame) : State where
  vm := { classes := classes, interned := interned.toArray }
  heap := heap
  slotsUsed := slotsUsed
  threads := #[{ frames := .invoking theMethod args0 :: below }]
def below0 : List Frame := [.native { method := ⟨0, 0⟩, args := #[] }]
def about1 : State := aboutOver below0
def p0 : Program := .bare "" "" ""
def e0 : Env := launch0.env 0 0 0
theorem w_frames : about1.frames = Frame.invoking theMethod args0 :: below0 := rfl
set_option maxRecDepth 65536 in
theorem w_args : argsFit about1.vm theMethod args0 = true := by decide +kernel
set_option maxRecDepth 65536 in
theorem w_heap : heapFits about1 = true := by decide +kernel
set_option maxRecDepth 65536 in
theorem w_runnable : about1.curStatus? = some .runnable := by decide +kernel
set_option maxRecDepth 65536 in
theorem w_alone : about1.alone = true := by decide +kernel
set_option maxRecDepth 65536 in
theorem w_named : about1.methodNamed? x = some theMethod := by decide +kernel
set_option maxRecDepth 65536 in
theorem w_hears : about1.hears theMethod below0 = true := by decide +kernel
set_option maxRecDepth 65536 in
theorem w_ripe : about1.ripe theMethod args0 below0 = true := by decide +kernel
theorem w_running : about1.status = .running := rfl
set_option maxRecDepth 65536 in
theorem w_room : about1.hasRoom e0.platform room_1 = true :=
  launch0.hasRoom_least _ room_1 (by decide +kernel) (by decide +kernel) (by decide +kernel) (by decide +kernel) (by decide +kernel) (by decide +kernel)
theorem allAtoms_all (ts : List Jvm.Cond) (a : Array Jvm.Value) (st : Jvm.State) : (allAtoms ts).before a st = ts.all (fun c => c.before a st) := by
  induction ts with
  | nil => rfl
  | cons c t ih =>
    show (Jvm.Cond.and c (allAtoms t)).before a st = _
    rw [Jvm.Cond.before_and, ih, List.all_cons]
def words1 : List Jvm.Cond := Jvm.Cond.code x code maxLocals ret :: tables_1
/-- a 'code' word, met by the world's own term for the bytes: nothing is compared byte by byte -/
theorem code_word {y : MethodName} {bytes : ByteArray} {mx : Nat} {rt : Option FieldType} {a : Array Value} {s : State} {m : MethodId} {meth : Method} {c : Code} (h1 : s.methodNamed? y = some m) (h2 : s.vm.method? m = some meth) (h3 : meth.code = some c) (h4 : c.code = bytes)
    (h5 : (c.maxLocals == mx && c.exceptionTable.isEmpty && decide (c.maxStack ≤ mostOperands) && decide (meth.sig.returnType = rt) && !meth.locks && decide (parseMethodDescriptor y.desc = some meth.sig)) = true) : (Jvm.Cond.code y bytes mx rt).before a s = true := by
  simp only [Bool.and_eq_true, beq_iff_eq, Bool.not_eq_true', decide_eq_true_eq] at h5
  obtain ⟨⟨⟨⟨⟨g1, g2⟩, g3⟩, g4⟩, g5⟩, g6⟩ := h5
  simp [Cond.before, Cond.holds, Cond.value, h1, h2, h3, h4, g1, g2, g3, g4, g5, g6]
def isCode : Jvm.Cond → Bool
  | .code _ _ _ _ => true
  | _ => false
theorem all_split {L : List Jvm.Cond} {P : Jvm.Cond → Bool} (h1 : L.all (fun c => isCode c || P c) = true) (h2 : ∀ c ∈ L.filter isCode, P c = true) : L.all P = true := by
  refine List.all_eq_true.mpr fun c hc => ?_
  have h := List.all_eq_true.mp h1 c hc
  rcases Bool.eq_false_or_eq_true (isCode c) with hi | hi
  · exact h2 c (List.mem_filter.mpr ⟨hc, hi⟩)
  · simpa [hi] using h
set_option maxRecDepth 65536 in
theorem w_c0 : (Jvm.Cond.code x code maxLocals ret).before args0 about1 = true := code_word (m := ⟨1, 1⟩) (meth := k1m1) (c := k1c1) (by decide +kernel) rfl rfl rfl (by decide +kernel)
set_option maxRecDepth 65536 in
theorem w_c1 : (Jvm.Cond.code ({ cls := "com/example/interleave/interleave/engine/LockType", name := "covering", desc := "(ZZ)Lcom/example/interleave/interleave/engine/LockType;" } : Jvm.MethodName) prog_33_method_7_code (3 : Nat) (Option.some (Jvm.ClassFile.FieldType.object "com/example/interleave/interleave/engine/LockType"))).before args0 about1 = true := code_word (m := ⟨6, 2⟩) (meth := k6m2) (c := k6c2) (by decide +kernel) rfl rfl rfl (by decide +kernel)
set_option maxRecDepth 65536 in
theorem w_c2 : (Jvm.Cond.code ({ cls := "com/example/interleave/interleave/engine/LockType", name := "coversRecord", desc := "()Z" } : Jvm.MethodName) prog_33_method_5_code (1 : Nat) (Option.some Jvm.ClassFile.FieldType.boolean)).before args0 about1 = true := code_word (m := ⟨6, 0⟩) (meth := k6m0) (c := k6c0) (by decide +kernel) rfl rfl rfl (by decide +kernel)
set_option maxRecDepth 65536 in
theorem w_c3 : (Jvm.Cond.code ({ cls := "com/example/interleave/interleave/engine/LockType", name := "coversGap", desc := "()Z" } : Jvm.MethodName) prog_33_method_6_code (1 : Nat) (Option.some Jvm.ClassFile.FieldType.boolean)).before args0 about1 = true := code_word (m := ⟨6, 1⟩) (meth := k6m1) (c := k6c1) (by decide +kernel) rfl rfl rfl (by decide +kernel)
def codes1 : List Jvm.Cond := [Jvm.Cond.code x code maxLocals ret, Jvm.Cond.code ({ cls := "com/example/interleave/interleave/engine/LockType", name := "covering", desc := "(ZZ)Lcom/example/interleave/interleave/engine/LockType;" } : Jvm.MethodName) prog_33_method_7_code (3 : Nat) (Option.some (Jvm.ClassFile.FieldType.object "com/example/interleave/interleave/engine/LockType")), Jvm.Cond.code ({ cls := "com/example/interleave/interleave/engine/LockType", name := "coversRecord", desc := "()Z" } : Jvm.MethodName) prog_33_method_5_code (1 : Nat) (Option.some Jvm.ClassFile.FieldType.boolean), Jvm.Cond.code ({ cls := "com/example/interleave/interleave/engine/LockType", name := "coversGap", desc := "()Z" } : Jvm.MethodName) prog_33_method_6_code (1 : Nat) (Option.some Jvm.ClassFile.FieldType.boolean)]
set_option maxRecDepth 65536 in
theorem codes_eq : words1.filter isCode = codes1 := rfl
theorem w_codes : ∀ c ∈ words1.filter isCode, c.before args0 about1 = true := by
  rw [codes_eq]
  intro c hc
  simp only [codes1, List.mem_cons, List.not_mem_nil, or_false] at hc
  rcases hc with rfl | rfl | rfl | rfl
  · exact w_c0
  · exact w_c1
  · exact w_c2
  · exact w_c3
set_option maxRecDepth 65536 in
theorem w_t1 : (words1.take 24).all (fun c => isCode c || c.before args0 about1) = true := by decide +kernel
set_option maxRecDepth 65536 in
theorem w_t2 : (words1.drop 24).all (fun c => isCode c || c.before args0 about1) = true := by decide +kernel
theorem w_tables : (allAtoms (Jvm.Cond.code x code maxLocals ret :: tables_1)).before args0 about1 = true := by
  rw [allAtoms_all]
  show words1.all (fun c => c.before args0 about1) = true
  refine all_split ?_ w_codes
  rw [← List.take_append_drop 24 words1, List.all_append, w_t1, w_t2]
  rfl
set_option maxRecDepth 65536 in
theorem w_case : (Jvm.Cond.and given_1 narrow_1).before args0 about1 = true := by decide +kernel
theorem w_applies : (headSpec (Jvm.Cond.code x code maxLocals ret :: tables_1) room_1).applies x e0.platform about1 = true :=
  (Spec.applies_iff w_frames).mpr ⟨w_running, w_runnable, w_alone, w_named, w_hears, w_ripe, w_room, w_tables⟩
theorem atStart : AtStart classFile x code maxLocals ret World_1 tables_1 room_1 Calls_1 rest_1 Pre_1 launch0 p0 e0 about1 theMethod args0 below0 :=
  ⟨lists_1, trivial, launch0.admits_env _ _ _, launch0.least_env, fairChoices_fair.cas, fairChoices_fair.clock, w_frames, w_args, w_heap, w_applies, trivial, trivial, w_case⟩
end start1
theorem witness_1 : WitnessClaimed_1 := ⟨start1.p0, start1.e0, start1.about1, start1.theMethod, start1.args0, start1.below0, start1.atStart⟩
end Jvm.Pilot.@@N@@
