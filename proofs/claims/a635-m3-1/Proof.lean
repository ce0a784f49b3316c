import JvmDerived
import JvmDerived.Pilot.@@N@@Statement
import JvmDerived.Pilot.@@N@@Code
set_option linter.unusedVariables false
set_option linter.unusedSimpArgs false
namespace Jvm.Pilot.@@N@@
open Jvm Jvm.ClassFile Sem Op Lib Jvm.Free Jvm.Stand Jvm.LawKit Jvm.RoadKit Bundle Jvm.Pilot.@@N@@.Jvm.D
section OwnBase
variable {tb : Tables} {e : Env} {below : List Frame} {A B : State} {K : State → Outcome → Prop}
/-- from A the run comes to an end of which K holds -/
def own_Ends (tb : Tables) (e : Env) (below : List Frame) (A : State) (K : State → Outcome → Prop) : Prop := ∃ t o, Steps tb e below A t ∧ K t o
theorem own_open {P : State → Outcome → Prop} (h : ∀ K : State → Outcome → Prop, (∀ t o, P t o → K t o) → own_Ends tb e below A K) : ∃ t o, Steps tb e below A t ∧ P t o := h P fun _ _ q => q
theorem own_go (h : ∀ t, Steps tb e below B t → Steps tb e below A t) (k : own_Ends tb e below B K) : own_Ends tb e below A K := by
  obtain ⟨t, o, h1, h2⟩ := k; exact ⟨t, o, h t h1, h2⟩
theorem own_n0 {Z : State} {n0 : Nat} {h : Heap} (O : Old Z n0 h) : n0 ≤ h.size := O.1 ▸ O.2.1
theorem own_bt {P : Prop} [Decidable P] (h : P) : ¬ ((if P then (1 : Int32) else 0) = 0) := by rw [if_pos h]; decide
theorem own_bf {P : Prop} [Decidable P] (h : ¬ P) : (if P then (1 : Int32) else 0) = 0 := by rw [if_neg h]
theorem own_lt_n0 {Z : State} {n0 : Nat} {h : Heap} {a : Addr} (O : Old Z n0 h) (q : a < Z.heap.size) : a < n0 := O.1 ▸ q
section OwnRet
variable {p : Program} {l : Launch} {R : Room} {s : State} {m : MethodId} {args : Array Value} {meth : Method} {c : Code} {T : State} {locs : List Loc} {cells slots : Nat}
theorem own_retI (X : Stand p l e R s m args below meth c T locs cells slots) (hx : p.tables.exec = Jvm.exec) {pc : Nat} {Ls : Array Slot} {z : Int32} {rest : List Value} (hret : meth.sig.returnType = some .int) (hd : decode c.code pc = .ok (.ireturn, 1)) {fs : List Frame}
    (hl : ∀ (f : JFrame) (acts : List Action), f.method = m → f.locked = none → f.entered = [] → (doReturn e (T.setTop f) acts (some (.int z))).1 = T.setFrames fs) : Steps p.tables e below (T.setTop (mkF m pc Ls (.int z :: rest))) (T.setFrames fs) :=
  retOut X hx hret rfl (Or.inl ⟨rfl, Or.inl rfl, z, rfl⟩) hd hl
theorem own_retL (X : Stand p l e R s m args below meth c T locs cells slots) (hx : p.tables.exec = Jvm.exec) {pc : Nat} {Ls : Array Slot} {z : Int64} {rest : List Value} (hret : meth.sig.returnType = some .long) (hd : decode c.code pc = .ok (.lreturn, 1)) {fs : List Frame}
    (hl : ∀ (f : JFrame) (acts : List Action), f.method = m → f.locked = none → f.entered = [] → (doReturn e (T.setTop f) acts (some (.long z))).1 = T.setFrames fs) : Steps p.tables e below (T.setTop (mkF m pc Ls (.long z :: rest))) (T.setFrames fs) :=
  retOut X hx hret rfl (Or.inr (Or.inl ⟨rfl, rfl, z, rfl⟩)) hd hl
theorem own_retA (X : Stand p l e R s m args below meth c T locs cells slots) (hx : p.tables.exec = Jvm.exec) {pc : Nat} {Ls : Array Slot} {w : Value} {t : FieldType} {rest : List Value} (hret : meth.sig.returnType = some t) (ht : t.isReference = true) (hw : w.isRef = true) (hd : decode c.code pc = .ok (.areturn, 1)) {fs : List Frame}
    (hl : ∀ (f : JFrame) (acts : List Action), f.method = m → f.locked = none → f.entered = [] → (doReturn e (T.setTop f) acts (some w)).1 = T.setFrames fs) : Steps p.tables e below (T.setTop (mkF m pc Ls (w :: rest))) (T.setFrames fs) := by
  have hn : narrow t w = w := by cases t <;> first | rfl | exact Bool.noConfusion ht
  exact retOut X hx hret hn (Or.inr (Or.inr (Or.inr (Or.inr ⟨rfl, ht, hw⟩)))) hd hl
end OwnRet
end OwnBase
theorem own_fldI {Z : State} {args : Array Value} {t : Term} {C n d : String} {x : Addr} {k : Int32} (ev : t.eval args Z none [] Z = some (.ref x)) (h : (Jvm.Cond.eq (Term.field t C n d) (Term.int k)).value args Z none Z [] = some true) : Fld Z Z.heap x C n d (.int k) := by
  apply Fld.start
  rw [← fld_at (t := t) (args := args) (first := Z) (o := none) (idx := []) ev]
  obtain ⟨y, z, h1, h2, -, -⟩ := cmp_v (Or.inl h)
  have h3 : z = .int k := Option.some.inj (h2.symm.trans (Term.int_eval k))
  subst h3
  rw [h1]
  simp only [Jvm.Cond.value] at h
  rw [h1, h2] at h
  cases y <;> simp at h ⊢
  exact h

theorem own_d0_0 : decode prog_15_method_7_code 0 = .ok (.iconst 2, 1) := by decide +kernel
theorem own_d0_1 : decode prog_15_method_7_code 1 = .ok (.aload_n 0, 1) := by decide +kernel
theorem own_d0_2 : decode prog_15_method_7_code 2 = .ok (.getfield 35, 3) := by decide +kernel
theorem own_d0_5 : decode prog_15_method_7_code 5 = .ok (.ifCond .eq 7, 3) := by decide +kernel
theorem own_d0_12 : decode prog_15_method_7_code 12 = .ok (.iconst 0, 1) := by decide +kernel
theorem own_d0_13 : decode prog_15_method_7_code 13 = .ok (.iadd, 1) := by decide +kernel
theorem own_d0_14 : decode prog_15_method_7_code 14 = .ok (.aload_n 0, 1) := by decide +kernel
theorem own_d0_15 : decode prog_15_method_7_code 15 = .ok (.getfield 39, 3) := by decide +kernel
theorem own_d0_18 : decode prog_15_method_7_code 18 = .ok (.ifCond .eq 7, 3) := by decide +kernel
theorem own_d0_25 : decode prog_15_method_7_code 25 = .ok (.iconst 0, 1) := by decide +kernel
theorem own_d0_26 : decode prog_15_method_7_code 26 = .ok (.iadd, 1) := by decide +kernel
theorem own_d0_27 : decode prog_15_method_7_code 27 = .ok (.ireturn, 1) := by decide +kernel
theorem own_d0_21 : decode prog_15_method_7_code 21 = .ok (.iconst 1, 1) := by decide +kernel
theorem own_d0_22 : decode prog_15_method_7_code 22 = .ok (.goto 4, 3) := by decide +kernel
theorem own_d0_8 : decode prog_15_method_7_code 8 = .ok (.iconst 1, 1) := by decide +kernel
theorem own_d0_9 : decode prog_15_method_7_code 9 = .ok (.goto 4, 3) := by decide +kernel
theorem own_pn_0 : plainName "com/example/portolan/portolan/geometry/Dimension" = true := by first | (simp [plainName, overriddenIn]; done) | decide +kernel
theorem own_ef_size (m : MethodId) (x0 : Addr)  : entryFrame m #[(.ref x0)] 1 = mkF m 0 #[.val (.ref x0)] [] := by first | (simp [entryFrame, mkF, argsToLocals, Value.category]; done) | rfl
def own_Q_size (Z : State) (a : Addr) (z1 m1 r : Int32) (h0 : Heap) (n0 : Nat) (v : Option Value) (h : Heap) (L : List Loc) : Prop := v = some (.int r) ∧ Fr n0 L ∧ h = h0
set_option maxRecDepth 65536 in
set_option maxHeartbeats 40000000 in
theorem own_rm_size (l : Launch) (Z : State) (a0 : Array Value) (hw : ∀ d ∈ tables_1, d.before a0 Z = true) (ws : List Jvm.Cond) (a : Addr) (z1 m1 r : Int32) (h0 : Heap) (n0 : Nat) (O0 : Old Z n0 h0) (F1 : Fld Z Z.heap a "com/example/portolan/portolan/geometry/Dimension" "z" "Z" (.int z1)) (F2 : Fld Z Z.heap a "com/example/portolan/portolan/geometry/Dimension" "m" "Z" (.int m1)) (hr0 : r = 2 + (if z1 = 0 then 0 else 1) + (if m1 = 0 then 0 else 1)) :
    MetFree l (⟨"com/example/portolan/portolan/geometry/Dimension", "size", "()I"⟩ : MethodName) (head1 (Jvm.Cond.code (⟨"com/example/portolan/portolan/geometry/Dimension", "size", "()I"⟩ : MethodName) prog_15_method_7_code 1 (some .int) :: ws) ({ frames := 0, cells := 0, slots := 0, locals := 0 } : Room)) (fun ar9 U => ar9 = #[(.ref a)] ∧ Z.Warmed39 U.vm ∧ U.heap = h0) (fun _ _ _ _ _ => True) (fun _ U o U' => ∃ v L, o = .returned v ∧ own_Q_size Z a z1 m1 r h0 n0 v U'.heap L ∧ FrameEnd U o U' L ({ frames := 0, cells := 0, slots := 0, locals := 0 } : Room).cells ({ frames := 0, cells := 0, slots := 0, locals := 0 } : Room).slots) := by
  refine MetFree.of_bodySF (plainFor_of_name own_pn_0) hisR ?_
  intro p e s m args below meth c s₁ Bd hml0 hP hK0
  obtain ⟨rfl, hZ, hh⟩ := hP
  have hx := Bd.exec
  have hby := Bd.bytes
  have hml : c.maxLocals = 1 := hml0
  have hown : s.vm.findClass "com/example/portolan/portolan/geometry/Dimension" = some m.cls := findClass_of_methodNamed Bd.named
  have hnm := (name_of_methodNamed Bd.named Bd.method).1
  have X0 : Stand p l e ({ frames := 0, cells := 0, slots := 0, locals := 0 } : Room) s m #[(.ref a)] below meth c s₁ [] 0 0 := Stand.of_body Bd
  have e0 : s₁.heap = h0 := by rw [← hh, Bd.state]; rfl
  have N0 := Fr.nil n0
  refine own_open fun K hK => ?_
  refine own_go (B := s₁.setTop (mkF m 0 #[.val (.ref a)] [])) (fun t k => castTop (own_ef_size m a) k) ?_
  refine own_go (B := s₁.setTop (mkF m 1 #[.val (.ref a)] [(.int (2 : Int32))])) (fun t k => XS.iconst X0.here hx rfl (hb hby own_d0_0) k) ?_
  refine own_go (B := s₁.setTop (mkF m 2 #[.val (.ref a)] [(.ref a), (.int (2 : Int32))])) (fun t k => XS.aloadN X0.here hx rfl (hb hby own_d0_1) rfl rfl k) ?_
  obtain ⟨T1, X1, e1, st1⟩ := getF X0 hx hZ hown (host := "") (Or.inl (hw _ (List.mem_of_getElem? (i := 8) rfl))) Via.refl e0 (F1.ext O0.2) (g := (mkF m 2 #[.val (.ref a)] [(.ref a), (.int (2 : Int32))])) rfl rfl (hb hby own_d0_2)
  refine own_go (B := T1.setTop (mkF m 5 #[.val (.ref a)] [(.int z1), (.int (2 : Int32))])) (fun t k => st1 _ k) ?_
  by_cases hc5_2 : z1 = (0 : Int32)
  · refine own_go (B := T1.setTop (mkF m 12 #[.val (.ref a)] [(.int (2 : Int32))])) (fun t k => XS.ifYes X1.here hx rfl (pc0 := 5) (pc' := 12) rfl (hb hby own_d0_5) rfl ((if0 _ _).trans (teq hc5_2).1) (by decide) (by decide) k) ?_
    refine own_go (B := T1.setTop (mkF m 13 #[.val (.ref a)] [(.int (0 : Int32)), (.int (2 : Int32))])) (fun t k => XS.iconst X1.here hx rfl (hb hby own_d0_12) k) ?_
    refine own_go (B := T1.setTop (mkF m 14 #[.val (.ref a)] [(.int ((2 : Int32) + (0 : Int32)))])) (fun t k => XS.iadd X1.here hx rfl (hb hby own_d0_13) rfl k) ?_
    refine own_go (B := T1.setTop (mkF m 15 #[.val (.ref a)] [(.ref a), (.int ((2 : Int32) + (0 : Int32)))])) (fun t k => XS.aloadN X1.here hx rfl (hb hby own_d0_14) rfl rfl k) ?_
    obtain ⟨T3, X3, e3, st3⟩ := getF X1 hx hZ hown (host := "") (Or.inl (hw _ (List.mem_of_getElem? (i := 10) rfl))) Via.refl e1 (F2.ext O0.2) (g := (mkF m 15 #[.val (.ref a)] [(.ref a), (.int ((2 : Int32) + (0 : Int32)))])) rfl rfl (hb hby own_d0_15)
    refine own_go (B := T3.setTop (mkF m 18 #[.val (.ref a)] [(.int m1), (.int ((2 : Int32) + (0 : Int32)))])) (fun t k => st3 _ k) ?_
    by_cases hc18_4 : m1 = (0 : Int32)
    · refine own_go (B := T3.setTop (mkF m 25 #[.val (.ref a)] [(.int ((2 : Int32) + (0 : Int32)))])) (fun t k => XS.ifYes X3.here hx rfl (pc0 := 18) (pc' := 25) rfl (hb hby own_d0_18) rfl ((if0 _ _).trans (teq hc18_4).1) (by decide) (by decide) k) ?_
      refine own_go (B := T3.setTop (mkF m 26 #[.val (.ref a)] [(.int (0 : Int32)), (.int ((2 : Int32) + (0 : Int32)))])) (fun t k => XS.iconst X3.here hx rfl (hb hby own_d0_25) k) ?_
      refine own_go (B := T3.setTop (mkF m 27 #[.val (.ref a)] [(.int (((2 : Int32) + (0 : Int32)) + (0 : Int32)))])) (fun t k => XS.iadd X3.here hx rfl (hb hby own_d0_26) rfl k) ?_
      obtain ⟨fs, hr, hrun, hended, hW, hsame⟩ := X3.leave (v := some (.int (((2 : Int32) + (0 : Int32)) + (0 : Int32)))) (fun h => by rw [Bd.returns] at h; cases h)
      refine ⟨_, _, own_retI X3 hx Bd.returns (hb hby own_d0_27) hr, hK _ _ ⟨hrun, hended, _, _, rfl, ?_, ⟨_, rfl⟩, hW, hsame.mono (by decide) (by decide)⟩⟩
      show own_Q_size Z a z1 m1 r h0 n0 _ T3.heap _
      rw [e3]
      exact ⟨(by rw [hr0]; simp [hc5_2, hc18_4]), N0, rfl⟩
    · refine own_go (B := T3.setTop (mkF m 21 #[.val (.ref a)] [(.int ((2 : Int32) + (0 : Int32)))])) (fun t k => XS.ifNo X3.here hx rfl (hb hby own_d0_18) rfl ((if0 _ _).trans (feq hc18_4).1) k) ?_
      refine own_go (B := T3.setTop (mkF m 22 #[.val (.ref a)] [(.int (1 : Int32)), (.int ((2 : Int32) + (0 : Int32)))])) (fun t k => XS.iconst X3.here hx rfl (hb hby own_d0_21) k) ?_
      refine own_go (B := T3.setTop (mkF m 26 #[.val (.ref a)] [(.int (1 : Int32)), (.int ((2 : Int32) + (0 : Int32)))])) (fun t k => XS.goto X3.here hx rfl (pc0 := 22) (pc' := 26) rfl (hb hby own_d0_22) (by decide) (by decide) k) ?_
      refine own_go (B := T3.setTop (mkF m 27 #[.val (.ref a)] [(.int (((2 : Int32) + (0 : Int32)) + (1 : Int32)))])) (fun t k => XS.iadd X3.here hx rfl (hb hby own_d0_26) rfl k) ?_
      obtain ⟨fs, hr, hrun, hended, hW, hsame⟩ := X3.leave (v := some (.int (((2 : Int32) + (0 : Int32)) + (1 : Int32)))) (fun h => by rw [Bd.returns] at h; cases h)
      refine ⟨_, _, own_retI X3 hx Bd.returns (hb hby own_d0_27) hr, hK _ _ ⟨hrun, hended, _, _, rfl, ?_, ⟨_, rfl⟩, hW, hsame.mono (by decide) (by decide)⟩⟩
      show own_Q_size Z a z1 m1 r h0 n0 _ T3.heap _
      rw [e3]
      exact ⟨(by rw [hr0]; simp [hc5_2, hc18_4]), N0, rfl⟩
  · refine own_go (B := T1.setTop (mkF m 8 #[.val (.ref a)] [(.int (2 : Int32))])) (fun t k => XS.ifNo X1.here hx rfl (hb hby own_d0_5) rfl ((if0 _ _).trans (feq hc5_2).1) k) ?_
    refine own_go (B := T1.setTop (mkF m 9 #[.val (.ref a)] [(.int (1 : Int32)), (.int (2 : Int32))])) (fun t k => XS.iconst X1.here hx rfl (hb hby own_d0_8) k) ?_
    refine own_go (B := T1.setTop (mkF m 13 #[.val (.ref a)] [(.int (1 : Int32)), (.int (2 : Int32))])) (fun t k => XS.goto X1.here hx rfl (pc0 := 9) (pc' := 13) rfl (hb hby own_d0_9) (by decide) (by decide) k) ?_
    refine own_go (B := T1.setTop (mkF m 14 #[.val (.ref a)] [(.int ((2 : Int32) + (1 : Int32)))])) (fun t k => XS.iadd X1.here hx rfl (hb hby own_d0_13) rfl k) ?_
    refine own_go (B := T1.setTop (mkF m 15 #[.val (.ref a)] [(.ref a), (.int ((2 : Int32) + (1 : Int32)))])) (fun t k => XS.aloadN X1.here hx rfl (hb hby own_d0_14) rfl rfl k) ?_
    obtain ⟨T7, X7, e7, st7⟩ := getF X1 hx hZ hown (host := "") (Or.inl (hw _ (List.mem_of_getElem? (i := 10) rfl))) Via.refl e1 (F2.ext O0.2) (g := (mkF m 15 #[.val (.ref a)] [(.ref a), (.int ((2 : Int32) + (1 : Int32)))])) rfl rfl (hb hby own_d0_15)
    refine own_go (B := T7.setTop (mkF m 18 #[.val (.ref a)] [(.int m1), (.int ((2 : Int32) + (1 : Int32)))])) (fun t k => st7 _ k) ?_
    by_cases hc18_8 : m1 = (0 : Int32)
    · refine own_go (B := T7.setTop (mkF m 25 #[.val (.ref a)] [(.int ((2 : Int32) + (1 : Int32)))])) (fun t k => XS.ifYes X7.here hx rfl (pc0 := 18) (pc' := 25) rfl (hb hby own_d0_18) rfl ((if0 _ _).trans (teq hc18_8).1) (by decide) (by decide) k) ?_
      refine own_go (B := T7.setTop (mkF m 26 #[.val (.ref a)] [(.int (0 : Int32)), (.int ((2 : Int32) + (1 : Int32)))])) (fun t k => XS.iconst X7.here hx rfl (hb hby own_d0_25) k) ?_
      refine own_go (B := T7.setTop (mkF m 27 #[.val (.ref a)] [(.int (((2 : Int32) + (1 : Int32)) + (0 : Int32)))])) (fun t k => XS.iadd X7.here hx rfl (hb hby own_d0_26) rfl k) ?_
      obtain ⟨fs, hr, hrun, hended, hW, hsame⟩ := X7.leave (v := some (.int (((2 : Int32) + (1 : Int32)) + (0 : Int32)))) (fun h => by rw [Bd.returns] at h; cases h)
      refine ⟨_, _, own_retI X7 hx Bd.returns (hb hby own_d0_27) hr, hK _ _ ⟨hrun, hended, _, _, rfl, ?_, ⟨_, rfl⟩, hW, hsame.mono (by decide) (by decide)⟩⟩
      show own_Q_size Z a z1 m1 r h0 n0 _ T7.heap _
      rw [e7]
      exact ⟨(by rw [hr0]; simp [hc5_2, hc18_8]), N0, rfl⟩
    · refine own_go (B := T7.setTop (mkF m 21 #[.val (.ref a)] [(.int ((2 : Int32) + (1 : Int32)))])) (fun t k => XS.ifNo X7.here hx rfl (hb hby own_d0_18) rfl ((if0 _ _).trans (feq hc18_8).1) k) ?_
      refine own_go (B := T7.setTop (mkF m 22 #[.val (.ref a)] [(.int (1 : Int32)), (.int ((2 : Int32) + (1 : Int32)))])) (fun t k => XS.iconst X7.here hx rfl (hb hby own_d0_21) k) ?_
      refine own_go (B := T7.setTop (mkF m 26 #[.val (.ref a)] [(.int (1 : Int32)), (.int ((2 : Int32) + (1 : Int32)))])) (fun t k => XS.goto X7.here hx rfl (pc0 := 22) (pc' := 26) rfl (hb hby own_d0_22) (by decide) (by decide) k) ?_
      refine own_go (B := T7.setTop (mkF m 27 #[.val (.ref a)] [(.int (((2 : Int32) + (1 : Int32)) + (1 : Int32)))])) (fun t k => XS.iadd X7.here hx rfl (hb hby own_d0_26) rfl k) ?_
      obtain ⟨fs, hr, hrun, hended, hW, hsame⟩ := X7.leave (v := some (.int (((2 : Int32) + (1 : Int32)) + (1 : Int32)))) (fun h => by rw [Bd.returns] at h; cases h)
      refine ⟨_, _, own_retI X7 hx Bd.returns (hb hby own_d0_27) hr, hK _ _ ⟨hrun, hended, _, _, rfl, ?_, ⟨_, rfl⟩, hW, hsame.mono (by decide) (by decide)⟩⟩
      show own_Q_size Z a z1 m1 r h0 n0 _ T7.heap _
      rw [e7]
      exact ⟨(by rw [hr0]; simp [hc5_2, hc18_8]), N0, rfl⟩
theorem own_pd_0 : parseMethodDescriptor "()I" = some ⟨[], some .int⟩ := by decide +kernel
theorem own_pn_1 : plainName "com/example/portolan/portolan/geometry/DimensionSizePinLaw" = true := by first | (simp [plainName, overriddenIn]; done) | decide +kernel
theorem own_ef_law (m : MethodId) (x0 : Int32)  : entryFrame m #[(.int x0)] maxLocals = mkF m 0 #[.val (.int x0), .unset, .unset, .unset] [] := by first | (simp [entryFrame, mkF, argsToLocals, Value.category, maxLocals]; done) | rfl
def own_Q_law (Z : State) (p1 : Int32) (w_XY w_XYZM w_XYM w_XYZ : Addr) (h0 : Heap) (n0 : Nat) (v : Option Value) (h : Heap) (L : List Loc) : Prop := v = some (.int 1) ∧ Fr n0 L
set_option maxRecDepth 65536 in
set_option maxHeartbeats 40000000 in
theorem own_rm_law (l : Launch) (Z : State) (a0 : Array Value) (hw : ∀ d ∈ tables_1, d.before a0 Z = true) (ws : List Jvm.Cond) (p1 : Int32) (w_XY w_XYZM w_XYM w_XYZ : Addr) (h0 : Heap) (n0 : Nat) (O0 : Old Z n0 h0) (S_XY : Sta Z Z.heap "com/example/portolan/portolan/geometry/Dimension" "XY" "Lcom/example/portolan/portolan/geometry/Dimension;" (.ref w_XY)) (E_XY : Exa Z Z.heap w_XY "com/example/portolan/portolan/geometry/Dimension") (F_XY_z : Fld Z Z.heap w_XY "com/example/portolan/portolan/geometry/Dimension" "z" "Z" (.int (0 : Int32))) (F_XY_m : Fld Z Z.heap w_XY "com/example/portolan/portolan/geometry/Dimension" "m" "Z" (.int (0 : Int32))) (S_XYZM : Sta Z Z.heap "com/example/portolan/portolan/geometry/Dimension" "XYZM" "Lcom/example/portolan/portolan/geometry/Dimension;" (.ref w_XYZM)) (E_XYZM : Exa Z Z.heap w_XYZM "com/example/portolan/portolan/geometry/Dimension") (F_XYZM_z : Fld Z Z.heap w_XYZM "com/example/portolan/portolan/geometry/Dimension" "z" "Z" (.int (1 : Int32))) (F_XYZM_m : Fld Z Z.heap w_XYZM "com/example/portolan/portolan/geometry/Dimension" "m" "Z" (.int (1 : Int32))) (S_XYM : Sta Z Z.heap "com/example/portolan/portolan/geometry/Dimension" "XYM" "Lcom/example/portolan/portolan/geometry/Dimension;" (.ref w_XYM)) (E_XYM : Exa Z Z.heap w_XYM "com/example/portolan/portolan/geometry/Dimension") (F_XYM_z : Fld Z Z.heap w_XYM "com/example/portolan/portolan/geometry/Dimension" "z" "Z" (.int (0 : Int32))) (F_XYM_m : Fld Z Z.heap w_XYM "com/example/portolan/portolan/geometry/Dimension" "m" "Z" (.int (1 : Int32))) (S_XYZ : Sta Z Z.heap "com/example/portolan/portolan/geometry/Dimension" "XYZ" "Lcom/example/portolan/portolan/geometry/Dimension;" (.ref w_XYZ)) (E_XYZ : Exa Z Z.heap w_XYZ "com/example/portolan/portolan/geometry/Dimension") (F_XYZ_z : Fld Z Z.heap w_XYZ "com/example/portolan/portolan/geometry/Dimension" "z" "Z" (.int (1 : Int32))) (F_XYZ_m : Fld Z Z.heap w_XYZ "com/example/portolan/portolan/geometry/Dimension" "m" "Z" (.int (0 : Int32))) :
    MetFree l x (head1 (Jvm.Cond.code x code maxLocals ret :: ws) room_1) (fun ar9 U => ar9 = #[(.int p1)] ∧ Z.Warmed39 U.vm ∧ U.heap = h0) (fun _ _ _ _ _ => True) (fun _ U o U' => ∃ v L, o = .returned v ∧ own_Q_law Z p1 w_XY w_XYZM w_XYM w_XYZ h0 n0 v U'.heap L ∧ FrameEnd U o U' L room_1.cells room_1.slots) := by
  refine MetFree.of_bodySF (plainFor_of_name own_pn_1) hisR ?_
  intro p e s m args below meth c s₁ Bd hml0 hP hK0
  obtain ⟨rfl, hZ, hh⟩ := hP
  have hx := Bd.exec
  have hby := Bd.bytes
  have hml : c.maxLocals = 4 := hml0
  have hown : s.vm.findClass "com/example/portolan/portolan/geometry/DimensionSizePinLaw" = some m.cls := findClass_of_methodNamed Bd.named
  have hnm := (name_of_methodNamed Bd.named Bd.method).1
  have X0 : Stand p l e room_1 s m #[(.int p1)] below meth c s₁ [] 0 0 := Stand.of_body Bd
  have e0 : s₁.heap = h0 := by rw [← hh, Bd.state]; rfl
  have N0 := Fr.nil n0
  refine own_open fun K hK => ?_
  refine own_go (B := s₁.setTop (mkF m 0 #[.val (.int p1), .unset, .unset, .unset] [])) (fun t k => castTop (own_ef_law m p1) k) ?_
  refine own_go (B := s₁.setTop (mkF m 1 #[.val (.int p1), .unset, .unset, .unset] [(.int p1)])) (fun t k => XS.iloadN X0.here hx rfl (hb hby at_0) rfl k) ?_
  refine own_go (B := s₁.setTop (mkF m 2 #[.val (.int p1), .unset, .unset, .unset] [(.int (3 : Int32)), (.int p1)])) (fun t k => XS.iconst X0.here hx rfl (hb hby at_1) k) ?_
  refine own_go (B := s₁.setTop (mkF m 3 #[.val (.int p1), .unset, .unset, .unset] [(.int (p1 &&& (3 : Int32)))])) (fun t k => XS.iand X0.here hx rfl (hb hby at_2) rfl k) ?_
  refine own_go (B := s₁.setTop (mkF m 4 #[.val (.int p1), .val (.int (p1 &&& (3 : Int32))), .unset, .unset] [])) (fun t k => XS.istoreN X0.here hx rfl (hb hby at_3) rfl (l' := #[.val (.int p1), .val (.int (p1 &&& (3 : Int32))), .unset, .unset]) rfl k) ?_
  refine own_go (B := s₁.setTop (mkF m 5 #[.val (.int p1), .val (.int (p1 &&& (3 : Int32))), .unset, .unset] [(.int (p1 &&& (3 : Int32)))])) (fun t k => XS.iloadN X0.here hx rfl (hb hby at_4) rfl k) ?_
  by_cases hc5_11 : (p1 &&& (3 : Int32)) = (0 : Int32)
  · refine own_go (B := s₁.setTop (mkF m 8 #[.val (.int p1), .val (.int (p1 &&& (3 : Int32))), .unset, .unset] [])) (fun t k => XS.ifNo X0.here hx rfl (hb hby at_5) rfl ((if0 _ _).trans (teq hc5_11).2) k) ?_
    obtain ⟨T12, X12, e12, st12⟩ := getS2 X0 hx hZ hown (host := "") (Or.inl (hw _ (List.mem_of_getElem? (i := 0) rfl))) Via.refl e0 (S_XY.ext O0.2) (g := (mkF m 8 #[.val (.int p1), .val (.int (p1 &&& (3 : Int32))), .unset, .unset] [])) rfl (hb hby at_8)
    refine own_go (B := T12.setTop (mkF m 11 #[.val (.int p1), .val (.int (p1 &&& (3 : Int32))), .unset, .unset] [(.ref w_XY)])) (fun t k => st12 _ k) ?_
    refine own_go (B := T12.setTop (mkF m 12 #[.val (.int p1), .val (.int (p1 &&& (3 : Int32))), .val (.ref w_XY), .unset] [])) (fun t k => XS.astoreN X12.here hx rfl (hb hby at_11) rfl rfl (l' := #[.val (.int p1), .val (.int (p1 &&& (3 : Int32))), .val (.ref w_XY), .unset]) rfl k) ?_
    refine own_go (B := T12.setTop (mkF m 13 #[.val (.int p1), .val (.int (p1 &&& (3 : Int32))), .val (.ref w_XY), .unset] [(.int (2 : Int32))])) (fun t k => XS.iconst X12.here hx rfl (hb hby at_12) k) ?_
    refine own_go (B := T12.setTop (mkF m 14 #[.val (.int p1), .val (.int (p1 &&& (3 : Int32))), .val (.ref w_XY), .val (.int (2 : Int32))] [])) (fun t k => XS.istoreN X12.here hx rfl (hb hby at_13) rfl (l' := #[.val (.int p1), .val (.int (p1 &&& (3 : Int32))), .val (.ref w_XY), .val (.int (2 : Int32))]) rfl k) ?_
    refine own_go (B := T12.setTop (mkF m 51 #[.val (.int p1), .val (.int (p1 &&& (3 : Int32))), .val (.ref w_XY), .val (.int (2 : Int32))] [])) (fun t k => XS.goto X12.here hx rfl (pc0 := 14) (pc' := 51) rfl (hb hby at_14) (by decide) (by decide) k) ?_
    refine own_go (B := T12.setTop (mkF m 52 #[.val (.int p1), .val (.int (p1 &&& (3 : Int32))), .val (.ref w_XY), .val (.int (2 : Int32))] [(.ref w_XY)])) (fun t k => XS.aloadN X12.here hx rfl (hb hby at_51) rfl rfl k) ?_
    obtain ⟨cq13, kq13, q13a, q13b, q13c⟩ := isOf hZ e12 (E_XY.ext O0.2)
    obtain ⟨_, _, ⟨T13, L13, k13, n13⟩, -, X13, ⟨Lc13, hQ13, l13, y13, z13⟩, st13⟩ := X12.virtualBack hx (y := (⟨"com/example/portolan/portolan/geometry/Dimension", "size", "()I"⟩ : MethodName)) (z := (⟨"com/example/portolan/portolan/geometry/Dimension", "size", "()I"⟩ : MethodName)) hown (mvT hZ (hw _ (List.mem_of_getElem? (i := 3) rfl))) (mvT hZ (hw _ (List.mem_of_getElem? (i := 4) rfl))) (notFace_of_selects (args := #[]) (mvT hZ (hw _ (List.mem_of_getElem? (i := 6) rfl)))) (mvT hZ (hw _ (List.mem_of_getElem? (i := 6) rfl))) (mvT hZ (hw _ (List.mem_of_getElem? (i := 5) rfl))) (by decide) (backOf (W := 0) (own_rm_size l Z a0 hw [] w_XY (0 : Int32) (0 : Int32) (2 : Int32) h0 n0 O0 F_XY_z F_XY_m (by decide)) hZ (hw _ (List.mem_of_getElem? (i := 7) rfl)) (hw _ (List.mem_of_getElem? (i := 1) rfl)) (by decide) (by decide)) q13a q13c (g := (mkF m 52 #[.val (.int p1), .val (.int (p1 &&& (3 : Int32))), .val (.ref w_XY), .val (.int (2 : Int32))] [(.ref w_XY)])) rfl (by rw [hml]; rfl) (Steps.refl _) (argsL := []) (rest := []) (lenOf own_pd_0 rfl) rfl (by show 2 * 0 + _ ≤ _; exact Nat.le_of_eq rfl) (hb hby at_52) (fun _ _ => ⟨rfl, e12, (by decide : 0 + 0 ≤ _), (by decide : 0 + 0 ≤ _)⟩)
    dsimp only [Pt.U, Pt.locs, Pt.cells, Pt.slots] at X13 l13 y13 z13 st13 hQ13
    subst l13 y13 z13
    obtain ⟨rfl, N13q, eh13⟩ := hQ13
    have N13 := Fr.app N0 N13q
    refine own_go (B := T13.setTop (mkF m 55 #[.val (.int p1), .val (.int (p1 &&& (3 : Int32))), .val (.ref w_XY), .val (.int (2 : Int32))] [(.int (2 : Int32))])) (fun t k => st13.trans k) ?_
    refine own_go (B := T13.setTop (mkF m 56 #[.val (.int p1), .val (.int (p1 &&& (3 : Int32))), .val (.ref w_XY), .val (.int (2 : Int32))] [(.int (2 : Int32)), (.int (2 : Int32))])) (fun t k => XS.iloadN X13.here hx rfl (hb hby at_55) rfl k) ?_
    refine own_go (B := T13.setTop (mkF m 59 #[.val (.int p1), .val (.int (p1 &&& (3 : Int32))), .val (.ref w_XY), .val (.int (2 : Int32))] [])) (fun t k => XS.icmpNo X13.here hx rfl (hb hby at_56) rfl (teq (by decide : (2 : Int32) = (2 : Int32))).2 k) ?_
    refine own_go (B := T13.setTop (mkF m 60 #[.val (.int p1), .val (.int (p1 &&& (3 : Int32))), .val (.ref w_XY), .val (.int (2 : Int32))] [(.int (1 : Int32))])) (fun t k => XS.iconst X13.here hx rfl (hb hby at_59) k) ?_
    refine own_go (B := T13.setTop (mkF m 64 #[.val (.int p1), .val (.int (p1 &&& (3 : Int32))), .val (.ref w_XY), .val (.int (2 : Int32))] [(.int (1 : Int32))])) (fun t k => XS.goto X13.here hx rfl (pc0 := 60) (pc' := 64) rfl (hb hby at_60) (by decide) (by decide) k) ?_
    obtain ⟨fs, hr, hrun, hended, hW, hsame⟩ := X13.leave (v := some (.int (1 : Int32))) (fun h => by rw [Bd.returns] at h; cases h)
    refine ⟨_, _, retN X13 hx (t := .boolean) Bd.returns (by simp) (hb hby at_64) hr, hK _ _ ⟨hrun, hended, _, _, rfl, ?_, ⟨_, rfl⟩, hW, hsame.mono (by decide) (by decide)⟩⟩
    show own_Q_law Z p1 w_XY w_XYZM w_XYM w_XYZ h0 n0 _ T13.heap _
    rw [eh13]
    exact ⟨rfl, N13⟩
  · refine own_go (B := s₁.setTop (mkF m 17 #[.val (.int p1), .val (.int (p1 &&& (3 : Int32))), .unset, .unset] [])) (fun t k => XS.ifYes X0.here hx rfl (pc0 := 5) (pc' := 17) rfl (hb hby at_5) rfl ((if0 _ _).trans (feq hc5_11).2) (by decide) (by decide) k) ?_
    refine own_go (B := s₁.setTop (mkF m 18 #[.val (.int p1), .val (.int (p1 &&& (3 : Int32))), .unset, .unset] [(.int (p1 &&& (3 : Int32)))])) (fun t k => XS.iloadN X0.here hx rfl (hb hby at_17) rfl k) ?_
    refine own_go (B := s₁.setTop (mkF m 19 #[.val (.int p1), .val (.int (p1 &&& (3 : Int32))), .unset, .unset] [(.int (1 : Int32)), (.int (p1 &&& (3 : Int32)))])) (fun t k => XS.iconst X0.here hx rfl (hb hby at_18) k) ?_
    by_cases hc19_16 : (p1 &&& (3 : Int32)) = (1 : Int32)
    · refine own_go (B := s₁.setTop (mkF m 22 #[.val (.int p1), .val (.int (p1 &&& (3 : Int32))), .unset, .unset] [])) (fun t k => XS.icmpNo X0.here hx rfl (hb hby at_19) rfl (teq hc19_16).2 k) ?_
      obtain ⟨T17, X17, e17, st17⟩ := getS2 X0 hx hZ hown (host := "") (Or.inl (hw _ (List.mem_of_getElem? (i := 16) rfl))) Via.refl e0 (S_XYZ.ext O0.2) (g := (mkF m 22 #[.val (.int p1), .val (.int (p1 &&& (3 : Int32))), .unset, .unset] [])) rfl (hb hby at_22)
      refine own_go (B := T17.setTop (mkF m 25 #[.val (.int p1), .val (.int (p1 &&& (3 : Int32))), .unset, .unset] [(.ref w_XYZ)])) (fun t k => st17 _ k) ?_
      refine own_go (B := T17.setTop (mkF m 26 #[.val (.int p1), .val (.int (p1 &&& (3 : Int32))), .val (.ref w_XYZ), .unset] [])) (fun t k => XS.astoreN X17.here hx rfl (hb hby at_25) rfl rfl (l' := #[.val (.int p1), .val (.int (p1 &&& (3 : Int32))), .val (.ref w_XYZ), .unset]) rfl k) ?_
      refine own_go (B := T17.setTop (mkF m 27 #[.val (.int p1), .val (.int (p1 &&& (3 : Int32))), .val (.ref w_XYZ), .unset] [(.int (3 : Int32))])) (fun t k => XS.iconst X17.here hx rfl (hb hby at_26) k) ?_
      refine own_go (B := T17.setTop (mkF m 28 #[.val (.int p1), .val (.int (p1 &&& (3 : Int32))), .val (.ref w_XYZ), .val (.int (3 : Int32))] [])) (fun t k => XS.istoreN X17.here hx rfl (hb hby at_27) rfl (l' := #[.val (.int p1), .val (.int (p1 &&& (3 : Int32))), .val (.ref w_XYZ), .val (.int (3 : Int32))]) rfl k) ?_
      refine own_go (B := T17.setTop (mkF m 51 #[.val (.int p1), .val (.int (p1 &&& (3 : Int32))), .val (.ref w_XYZ), .val (.int (3 : Int32))] [])) (fun t k => XS.goto X17.here hx rfl (pc0 := 28) (pc' := 51) rfl (hb hby at_28) (by decide) (by decide) k) ?_
      refine own_go (B := T17.setTop (mkF m 52 #[.val (.int p1), .val (.int (p1 &&& (3 : Int32))), .val (.ref w_XYZ), .val (.int (3 : Int32))] [(.ref w_XYZ)])) (fun t k => XS.aloadN X17.here hx rfl (hb hby at_51) rfl rfl k) ?_
      obtain ⟨cq18, kq18, q18a, q18b, q18c⟩ := isOf hZ e17 (E_XYZ.ext O0.2)
      obtain ⟨_, _, ⟨T18, L18, k18, n18⟩, -, X18, ⟨Lc18, hQ18, l18, y18, z18⟩, st18⟩ := X17.virtualBack hx (y := (⟨"com/example/portolan/portolan/geometry/Dimension", "size", "()I"⟩ : MethodName)) (z := (⟨"com/example/portolan/portolan/geometry/Dimension", "size", "()I"⟩ : MethodName)) hown (mvT hZ (hw _ (List.mem_of_getElem? (i := 3) rfl))) (mvT hZ (hw _ (List.mem_of_getElem? (i := 4) rfl))) (notFace_of_selects (args := #[]) (mvT hZ (hw _ (List.mem_of_getElem? (i := 6) rfl)))) (mvT hZ (hw _ (List.mem_of_getElem? (i := 6) rfl))) (mvT hZ (hw _ (List.mem_of_getElem? (i := 5) rfl))) (by decide) (backOf (W := 0) (own_rm_size l Z a0 hw [] w_XYZ (1 : Int32) (0 : Int32) (3 : Int32) h0 n0 O0 F_XYZ_z F_XYZ_m (by decide)) hZ (hw _ (List.mem_of_getElem? (i := 7) rfl)) (hw _ (List.mem_of_getElem? (i := 1) rfl)) (by decide) (by decide)) q18a q18c (g := (mkF m 52 #[.val (.int p1), .val (.int (p1 &&& (3 : Int32))), .val (.ref w_XYZ), .val (.int (3 : Int32))] [(.ref w_XYZ)])) rfl (by rw [hml]; rfl) (Steps.refl _) (argsL := []) (rest := []) (lenOf own_pd_0 rfl) rfl (by show 2 * 0 + _ ≤ _; exact Nat.le_of_eq rfl) (hb hby at_52) (fun _ _ => ⟨rfl, e17, (by decide : 0 + 0 ≤ _), (by decide : 0 + 0 ≤ _)⟩)
      dsimp only [Pt.U, Pt.locs, Pt.cells, Pt.slots] at X18 l18 y18 z18 st18 hQ18
      subst l18 y18 z18
      obtain ⟨rfl, N18q, eh18⟩ := hQ18
      have N18 := Fr.app N0 N18q
      refine own_go (B := T18.setTop (mkF m 55 #[.val (.int p1), .val (.int (p1 &&& (3 : Int32))), .val (.ref w_XYZ), .val (.int (3 : Int32))] [(.int (3 : Int32))])) (fun t k => st18.trans k) ?_
      refine own_go (B := T18.setTop (mkF m 56 #[.val (.int p1), .val (.int (p1 &&& (3 : Int32))), .val (.ref w_XYZ), .val (.int (3 : Int32))] [(.int (3 : Int32)), (.int (3 : Int32))])) (fun t k => XS.iloadN X18.here hx rfl (hb hby at_55) rfl k) ?_
      refine own_go (B := T18.setTop (mkF m 59 #[.val (.int p1), .val (.int (p1 &&& (3 : Int32))), .val (.ref w_XYZ), .val (.int (3 : Int32))] [])) (fun t k => XS.icmpNo X18.here hx rfl (hb hby at_56) rfl (teq (by decide : (3 : Int32) = (3 : Int32))).2 k) ?_
      refine own_go (B := T18.setTop (mkF m 60 #[.val (.int p1), .val (.int (p1 &&& (3 : Int32))), .val (.ref w_XYZ), .val (.int (3 : Int32))] [(.int (1 : Int32))])) (fun t k => XS.iconst X18.here hx rfl (hb hby at_59) k) ?_
      refine own_go (B := T18.setTop (mkF m 64 #[.val (.int p1), .val (.int (p1 &&& (3 : Int32))), .val (.ref w_XYZ), .val (.int (3 : Int32))] [(.int (1 : Int32))])) (fun t k => XS.goto X18.here hx rfl (pc0 := 60) (pc' := 64) rfl (hb hby at_60) (by decide) (by decide) k) ?_
      obtain ⟨fs, hr, hrun, hended, hW, hsame⟩ := X18.leave (v := some (.int (1 : Int32))) (fun h => by rw [Bd.returns] at h; cases h)
      refine ⟨_, _, retN X18 hx (t := .boolean) Bd.returns (by simp) (hb hby at_64) hr, hK _ _ ⟨hrun, hended, _, _, rfl, ?_, ⟨_, rfl⟩, hW, hsame.mono (by decide) (by decide)⟩⟩
      show own_Q_law Z p1 w_XY w_XYZM w_XYM w_XYZ h0 n0 _ T18.heap _
      rw [eh18]
      exact ⟨rfl, N18⟩
    · refine own_go (B := s₁.setTop (mkF m 31 #[.val (.int p1), .val (.int (p1 &&& (3 : Int32))), .unset, .unset] [])) (fun t k => XS.icmpYes X0.here hx rfl (pc0 := 19) (pc' := 31) rfl (hb hby at_19) rfl (feq hc19_16).2 (by decide) (by decide) k) ?_
      refine own_go (B := s₁.setTop (mkF m 32 #[.val (.int p1), .val (.int (p1 &&& (3 : Int32))), .unset, .unset] [(.int (p1 &&& (3 : Int32)))])) (fun t k => XS.iloadN X0.here hx rfl (hb hby at_31) rfl k) ?_
      refine own_go (B := s₁.setTop (mkF m 33 #[.val (.int p1), .val (.int (p1 &&& (3 : Int32))), .unset, .unset] [(.int (2 : Int32)), (.int (p1 &&& (3 : Int32)))])) (fun t k => XS.iconst X0.here hx rfl (hb hby at_32) k) ?_
      by_cases hc33_21 : (p1 &&& (3 : Int32)) = (2 : Int32)
      · refine own_go (B := s₁.setTop (mkF m 36 #[.val (.int p1), .val (.int (p1 &&& (3 : Int32))), .unset, .unset] [])) (fun t k => XS.icmpNo X0.here hx rfl (hb hby at_33) rfl (teq hc33_21).2 k) ?_
        obtain ⟨T22, X22, e22, st22⟩ := getS2 X0 hx hZ hown (host := "") (Or.inl (hw _ (List.mem_of_getElem? (i := 14) rfl))) Via.refl e0 (S_XYM.ext O0.2) (g := (mkF m 36 #[.val (.int p1), .val (.int (p1 &&& (3 : Int32))), .unset, .unset] [])) rfl (hb hby at_36)
        refine own_go (B := T22.setTop (mkF m 39 #[.val (.int p1), .val (.int (p1 &&& (3 : Int32))), .unset, .unset] [(.ref w_XYM)])) (fun t k => st22 _ k) ?_
        refine own_go (B := T22.setTop (mkF m 40 #[.val (.int p1), .val (.int (p1 &&& (3 : Int32))), .val (.ref w_XYM), .unset] [])) (fun t k => XS.astoreN X22.here hx rfl (hb hby at_39) rfl rfl (l' := #[.val (.int p1), .val (.int (p1 &&& (3 : Int32))), .val (.ref w_XYM), .unset]) rfl k) ?_
        refine own_go (B := T22.setTop (mkF m 41 #[.val (.int p1), .val (.int (p1 &&& (3 : Int32))), .val (.ref w_XYM), .unset] [(.int (3 : Int32))])) (fun t k => XS.iconst X22.here hx rfl (hb hby at_40) k) ?_
        refine own_go (B := T22.setTop (mkF m 42 #[.val (.int p1), .val (.int (p1 &&& (3 : Int32))), .val (.ref w_XYM), .val (.int (3 : Int32))] [])) (fun t k => XS.istoreN X22.here hx rfl (hb hby at_41) rfl (l' := #[.val (.int p1), .val (.int (p1 &&& (3 : Int32))), .val (.ref w_XYM), .val (.int (3 : Int32))]) rfl k) ?_
        refine own_go (B := T22.setTop (mkF m 51 #[.val (.int p1), .val (.int (p1 &&& (3 : Int32))), .val (.ref w_XYM), .val (.int (3 : Int32))] [])) (fun t k => XS.goto X22.here hx rfl (pc0 := 42) (pc' := 51) rfl (hb hby at_42) (by decide) (by decide) k) ?_
        refine own_go (B := T22.setTop (mkF m 52 #[.val (.int p1), .val (.int (p1 &&& (3 : Int32))), .val (.ref w_XYM), .val (.int (3 : Int32))] [(.ref w_XYM)])) (fun t k => XS.aloadN X22.here hx rfl (hb hby at_51) rfl rfl k) ?_
        obtain ⟨cq23, kq23, q23a, q23b, q23c⟩ := isOf hZ e22 (E_XYM.ext O0.2)
        obtain ⟨_, _, ⟨T23, L23, k23, n23⟩, -, X23, ⟨Lc23, hQ23, l23, y23, z23⟩, st23⟩ := X22.virtualBack hx (y := (⟨"com/example/portolan/portolan/geometry/Dimension", "size", "()I"⟩ : MethodName)) (z := (⟨"com/example/portolan/portolan/geometry/Dimension", "size", "()I"⟩ : MethodName)) hown (mvT hZ (hw _ (List.mem_of_getElem? (i := 3) rfl))) (mvT hZ (hw _ (List.mem_of_getElem? (i := 4) rfl))) (notFace_of_selects (args := #[]) (mvT hZ (hw _ (List.mem_of_getElem? (i := 6) rfl)))) (mvT hZ (hw _ (List.mem_of_getElem? (i := 6) rfl))) (mvT hZ (hw _ (List.mem_of_getElem? (i := 5) rfl))) (by decide) (backOf (W := 0) (own_rm_size l Z a0 hw [] w_XYM (0 : Int32) (1 : Int32) (3 : Int32) h0 n0 O0 F_XYM_z F_XYM_m (by decide)) hZ (hw _ (List.mem_of_getElem? (i := 7) rfl)) (hw _ (List.mem_of_getElem? (i := 1) rfl)) (by decide) (by decide)) q23a q23c (g := (mkF m 52 #[.val (.int p1), .val (.int (p1 &&& (3 : Int32))), .val (.ref w_XYM), .val (.int (3 : Int32))] [(.ref w_XYM)])) rfl (by rw [hml]; rfl) (Steps.refl _) (argsL := []) (rest := []) (lenOf own_pd_0 rfl) rfl (by show 2 * 0 + _ ≤ _; exact Nat.le_of_eq rfl) (hb hby at_52) (fun _ _ => ⟨rfl, e22, (by decide : 0 + 0 ≤ _), (by decide : 0 + 0 ≤ _)⟩)
        dsimp only [Pt.U, Pt.locs, Pt.cells, Pt.slots] at X23 l23 y23 z23 st23 hQ23
        subst l23 y23 z23
        obtain ⟨rfl, N23q, eh23⟩ := hQ23
        have N23 := Fr.app N0 N23q
        refine own_go (B := T23.setTop (mkF m 55 #[.val (.int p1), .val (.int (p1 &&& (3 : Int32))), .val (.ref w_XYM), .val (.int (3 : Int32))] [(.int (3 : Int32))])) (fun t k => st23.trans k) ?_
        refine own_go (B := T23.setTop (mkF m 56 #[.val (.int p1), .val (.int (p1 &&& (3 : Int32))), .val (.ref w_XYM), .val (.int (3 : Int32))] [(.int (3 : Int32)), (.int (3 : Int32))])) (fun t k => XS.iloadN X23.here hx rfl (hb hby at_55) rfl k) ?_
        refine own_go (B := T23.setTop (mkF m 59 #[.val (.int p1), .val (.int (p1 &&& (3 : Int32))), .val (.ref w_XYM), .val (.int (3 : Int32))] [])) (fun t k => XS.icmpNo X23.here hx rfl (hb hby at_56) rfl (teq (by decide : (3 : Int32) = (3 : Int32))).2 k) ?_
        refine own_go (B := T23.setTop (mkF m 60 #[.val (.int p1), .val (.int (p1 &&& (3 : Int32))), .val (.ref w_XYM), .val (.int (3 : Int32))] [(.int (1 : Int32))])) (fun t k => XS.iconst X23.here hx rfl (hb hby at_59) k) ?_
        refine own_go (B := T23.setTop (mkF m 64 #[.val (.int p1), .val (.int (p1 &&& (3 : Int32))), .val (.ref w_XYM), .val (.int (3 : Int32))] [(.int (1 : Int32))])) (fun t k => XS.goto X23.here hx rfl (pc0 := 60) (pc' := 64) rfl (hb hby at_60) (by decide) (by decide) k) ?_
        obtain ⟨fs, hr, hrun, hended, hW, hsame⟩ := X23.leave (v := some (.int (1 : Int32))) (fun h => by rw [Bd.returns] at h; cases h)
        refine ⟨_, _, retN X23 hx (t := .boolean) Bd.returns (by simp) (hb hby at_64) hr, hK _ _ ⟨hrun, hended, _, _, rfl, ?_, ⟨_, rfl⟩, hW, hsame.mono (by decide) (by decide)⟩⟩
        show own_Q_law Z p1 w_XY w_XYZM w_XYM w_XYZ h0 n0 _ T23.heap _
        rw [eh23]
        exact ⟨rfl, N23⟩
      · refine own_go (B := s₁.setTop (mkF m 45 #[.val (.int p1), .val (.int (p1 &&& (3 : Int32))), .unset, .unset] [])) (fun t k => XS.icmpYes X0.here hx rfl (pc0 := 33) (pc' := 45) rfl (hb hby at_33) rfl (feq hc33_21).2 (by decide) (by decide) k) ?_
        obtain ⟨T26, X26, e26, st26⟩ := getS2 X0 hx hZ hown (host := "") (Or.inl (hw _ (List.mem_of_getElem? (i := 12) rfl))) Via.refl e0 (S_XYZM.ext O0.2) (g := (mkF m 45 #[.val (.int p1), .val (.int (p1 &&& (3 : Int32))), .unset, .unset] [])) rfl (hb hby at_45)
        refine own_go (B := T26.setTop (mkF m 48 #[.val (.int p1), .val (.int (p1 &&& (3 : Int32))), .unset, .unset] [(.ref w_XYZM)])) (fun t k => st26 _ k) ?_
        refine own_go (B := T26.setTop (mkF m 49 #[.val (.int p1), .val (.int (p1 &&& (3 : Int32))), .val (.ref w_XYZM), .unset] [])) (fun t k => XS.astoreN X26.here hx rfl (hb hby at_48) rfl rfl (l' := #[.val (.int p1), .val (.int (p1 &&& (3 : Int32))), .val (.ref w_XYZM), .unset]) rfl k) ?_
        refine own_go (B := T26.setTop (mkF m 50 #[.val (.int p1), .val (.int (p1 &&& (3 : Int32))), .val (.ref w_XYZM), .unset] [(.int (4 : Int32))])) (fun t k => XS.iconst X26.here hx rfl (hb hby at_49) k) ?_
        refine own_go (B := T26.setTop (mkF m 51 #[.val (.int p1), .val (.int (p1 &&& (3 : Int32))), .val (.ref w_XYZM), .val (.int (4 : Int32))] [])) (fun t k => XS.istoreN X26.here hx rfl (hb hby at_50) rfl (l' := #[.val (.int p1), .val (.int (p1 &&& (3 : Int32))), .val (.ref w_XYZM), .val (.int (4 : Int32))]) rfl k) ?_
        refine own_go (B := T26.setTop (mkF m 52 #[.val (.int p1), .val (.int (p1 &&& (3 : Int32))), .val (.ref w_XYZM), .val (.int (4 : Int32))] [(.ref w_XYZM)])) (fun t k => XS.aloadN X26.here hx rfl (hb hby at_51) rfl rfl k) ?_
        obtain ⟨cq27, kq27, q27a, q27b, q27c⟩ := isOf hZ e26 (E_XYZM.ext O0.2)
        obtain ⟨_, _, ⟨T27, L27, k27, n27⟩, -, X27, ⟨Lc27, hQ27, l27, y27, z27⟩, st27⟩ := X26.virtualBack hx (y := (⟨"com/example/portolan/portolan/geometry/Dimension", "size", "()I"⟩ : MethodName)) (z := (⟨"com/example/portolan/portolan/geometry/Dimension", "size", "()I"⟩ : MethodName)) hown (mvT hZ (hw _ (List.mem_of_getElem? (i := 3) rfl))) (mvT hZ (hw _ (List.mem_of_getElem? (i := 4) rfl))) (notFace_of_selects (args := #[]) (mvT hZ (hw _ (List.mem_of_getElem? (i := 6) rfl)))) (mvT hZ (hw _ (List.mem_of_getElem? (i := 6) rfl))) (mvT hZ (hw _ (List.mem_of_getElem? (i := 5) rfl))) (by decide) (backOf (W := 0) (own_rm_size l Z a0 hw [] w_XYZM (1 : Int32) (1 : Int32) (4 : Int32) h0 n0 O0 F_XYZM_z F_XYZM_m (by decide)) hZ (hw _ (List.mem_of_getElem? (i := 7) rfl)) (hw _ (List.mem_of_getElem? (i := 1) rfl)) (by decide) (by decide)) q27a q27c (g := (mkF m 52 #[.val (.int p1), .val (.int (p1 &&& (3 : Int32))), .val (.ref w_XYZM), .val (.int (4 : Int32))] [(.ref w_XYZM)])) rfl (by rw [hml]; rfl) (Steps.refl _) (argsL := []) (rest := []) (lenOf own_pd_0 rfl) rfl (by show 2 * 0 + _ ≤ _; exact Nat.le_of_eq rfl) (hb hby at_52) (fun _ _ => ⟨rfl, e26, (by decide : 0 + 0 ≤ _), (by decide : 0 + 0 ≤ _)⟩)
        dsimp only [Pt.U, Pt.locs, Pt.cells, Pt.slots] at X27 l27 y27 z27 st27 hQ27
        subst l27 y27 z27
        obtain ⟨rfl, N27q, eh27⟩ := hQ27
        have N27 := Fr.app N0 N27q
        refine own_go (B := T27.setTop (mkF m 55 #[.val (.int p1), .val (.int (p1 &&& (3 : Int32))), .val (.ref w_XYZM), .val (.int (4 : Int32))] [(.int (4 : Int32))])) (fun t k => st27.trans k) ?_
        refine own_go (B := T27.setTop (mkF m 56 #[.val (.int p1), .val (.int (p1 &&& (3 : Int32))), .val (.ref w_XYZM), .val (.int (4 : Int32))] [(.int (4 : Int32)), (.int (4 : Int32))])) (fun t k => XS.iloadN X27.here hx rfl (hb hby at_55) rfl k) ?_
        refine own_go (B := T27.setTop (mkF m 59 #[.val (.int p1), .val (.int (p1 &&& (3 : Int32))), .val (.ref w_XYZM), .val (.int (4 : Int32))] [])) (fun t k => XS.icmpNo X27.here hx rfl (hb hby at_56) rfl (teq (by decide : (4 : Int32) = (4 : Int32))).2 k) ?_
        refine own_go (B := T27.setTop (mkF m 60 #[.val (.int p1), .val (.int (p1 &&& (3 : Int32))), .val (.ref w_XYZM), .val (.int (4 : Int32))] [(.int (1 : Int32))])) (fun t k => XS.iconst X27.here hx rfl (hb hby at_59) k) ?_
        refine own_go (B := T27.setTop (mkF m 64 #[.val (.int p1), .val (.int (p1 &&& (3 : Int32))), .val (.ref w_XYZM), .val (.int (4 : Int32))] [(.int (1 : Int32))])) (fun t k => XS.goto X27.here hx rfl (pc0 := 60) (pc' := 64) rfl (hb hby at_60) (by decide) (by decide) k) ?_
        obtain ⟨fs, hr, hrun, hended, hW, hsame⟩ := X27.leave (v := some (.int (1 : Int32))) (fun h => by rw [Bd.returns] at h; cases h)
        refine ⟨_, _, retN X27 hx (t := .boolean) Bd.returns (by simp) (hb hby at_64) hr, hK _ _ ⟨hrun, hended, _, _, rfl, ?_, ⟨_, rfl⟩, hW, hsame.mono (by decide) (by decide)⟩⟩
        show own_Q_law Z p1 w_XY w_XYZM w_XYM w_XYZ h0 n0 _ T27.heap _
        rw [eh27]
        exact ⟨rfl, N27⟩
set_option maxRecDepth 65536 in
set_option maxHeartbeats 40000000 in
theorem comes_1 {Post : Tables → Env → Array Value → State → Outcome → State → Prop} (hpost : ∀ tb e args s v u, (limb_1_1.after args s (.returned v) u = true ∧ limb_1_2.after args s (.returned v) u = true ∧ True) → FrameEnd s (.returned v) u (Jvm.fieldLocs frame_1_writes args s ++ Jvm.arrayLocs frame_1_arrays args s ++ Jvm.staticLocs frame_1_statics s) 0 0 → Post tb e args s (.returned v) u) :
    ArmFor flags0 classFile x code maxLocals ret World_1 tables_1 room_1 Calls_1 rest_1 Pre_1 Post := by
  intro l hfl _ _ p e ha hc hk s m args below hf hA hF happ hP
  obtain ⟨hcalls, hrest, hpre⟩ := hP
  obtain ⟨-, -, -, hnamed, -, -, -, hat⟩ := (Spec.applies_iff hf).mp happ
  obtain ⟨hg, hn⟩ := and_e (Cond.before_iff.mp (show (Jvm.Cond.and given_1 narrow_1).before args s = true from hpre))
  obtain ⟨hga, hgb⟩ := and_e hg
  obtain ⟨v0, rfl⟩ : ∃ v0 : Value, args = #[v0] := by
    have hs : args.size = 1 := by simpa [Cond.value, given_1] using hga
    obtain ⟨L⟩ := args
    match L, hs with
    | [v0], _ => exact ⟨v0, rfl⟩
  have hw := fun d (hd : d ∈ tables_1) => atoms_spec (ws := Jvm.Cond.code x code maxLocals ret :: tables_1) hat d (List.mem_cons_of_mem _ hd)
  have hfit : Fit s := fun {y c} hc i hi => by
    obtain ⟨ha, rfl⟩ := Array.getElem?_eq_some_iff.mp hc
    have q := List.all_eq_true.mp ((Array.all_eq_true_iff_forall_mem.mp hF) _ (Array.getElem_mem ha)) i (List.mem_range.mpr hi)
    simpa [Array.getElem?_eq_getElem hi] using q
  obtain ⟨p1, ep1⟩ := is_v hgb
  obtain rfl : v0 = (.int p1) := Option.some.inj ep1
  obtain ⟨hna, hnb⟩ := and_e hn
  obtain ⟨hnba, hnbb⟩ := and_e hnb
  obtain ⟨hnbba, hnbbb⟩ := and_e hnbb
  obtain ⟨hnbbba, hnbbbb⟩ := and_e hnbbb
  obtain ⟨hnbbbba, hnbbbbb⟩ := and_e hnbbbb
  obtain ⟨hnbbbbba, hnbbbbbb⟩ := and_e hnbbbbb
  obtain ⟨hnbbbbbba, hnbbbbbbb⟩ := and_e hnbbbbbb
  obtain ⟨hnbbbbbbba, hnbbbbbbbb⟩ := and_e hnbbbbbbb
  obtain ⟨hnbbbbbbbba, hnbbbbbbbbb⟩ := and_e hnbbbbbbbb
  obtain ⟨hnbbbbbbbbba, hnbbbbbbbbbb⟩ := and_e hnbbbbbbbbb
  obtain ⟨hnbbbbbbbbbba, hnbbbbbbbbbbb⟩ := and_e hnbbbbbbbbbb
  obtain ⟨w_XY, ev_XY⟩ := exa_v hna
  have S_XY := Sta.start ev_XY (Or.inr ⟨(hw _ (List.mem_of_getElem? (i := 1) rfl)), (hw _ (List.mem_of_getElem? (i := 2) rfl))⟩)
  have E_XY := Exa.start ev_XY hna
  have F_XY_z := own_fldI ev_XY hnba
  have F_XY_m := own_fldI ev_XY hnbba
  obtain ⟨w_XYZM, ev_XYZM⟩ := exa_v hnbbba
  have S_XYZM := Sta.start ev_XYZM (Or.inr ⟨(hw _ (List.mem_of_getElem? (i := 1) rfl)), (hw _ (List.mem_of_getElem? (i := 13) rfl))⟩)
  have E_XYZM := Exa.start ev_XYZM hnbbba
  have F_XYZM_z := own_fldI ev_XYZM hnbbbba
  have F_XYZM_m := own_fldI ev_XYZM hnbbbbba
  obtain ⟨w_XYM, ev_XYM⟩ := exa_v hnbbbbbba
  have S_XYM := Sta.start ev_XYM (Or.inr ⟨(hw _ (List.mem_of_getElem? (i := 1) rfl)), (hw _ (List.mem_of_getElem? (i := 15) rfl))⟩)
  have E_XYM := Exa.start ev_XYM hnbbbbbba
  have F_XYM_z := own_fldI ev_XYM hnbbbbbbba
  have F_XYM_m := own_fldI ev_XYM hnbbbbbbbba
  obtain ⟨w_XYZ, ev_XYZ⟩ := exa_v hnbbbbbbbbba
  have S_XYZ := Sta.start ev_XYZ (Or.inr ⟨(hw _ (List.mem_of_getElem? (i := 1) rfl)), (hw _ (List.mem_of_getElem? (i := 17) rfl))⟩)
  have E_XYZ := Exa.start ev_XYZ hnbbbbbbbbba
  have F_XYZ_z := own_fldI ev_XYZ hnbbbbbbbbbba
  have F_XYZ_m := own_fldI ev_XYZ hnbbbbbbbbbbb
  obtain ⟨n, o, h1, h2, h3, _, L, rfl, ⟨rfl, N⟩, hq⟩ := own_rm_law l s _ hw tables_1 p1 w_XY w_XYZM w_XYM w_XYZ s.heap s.heap.size (Old.start s) S_XY E_XY F_XY_z F_XY_m S_XYZM E_XYZM F_XYZM_z F_XYZM_m S_XYM E_XYM F_XYM_z F_XYM_m S_XYZ E_XYZ F_XYZ_z F_XYZ_m p e ha hc hk s m _ below hf ((Spec.applies_iff_loose hf).mp happ).1 ⟨rfl, State.Warmed39.refl s, rfl⟩ trivial
  refine ⟨n, _, h1, h2, h3, hpost _ _ _ _ _ _ ⟨Cond.after_iff.mpr rfl, Cond.after_iff.mpr (eq_i res_at (Term.int_eval (1)) rfl), trivial⟩ ⟨hq.1, hq.2.1, (hq.2.2.sift fun y hy => Or.inr (N y hy)).mono (by decide) (by decide)⟩⟩
theorem main_1_1 : Claimed_1_1 := comes_1 fun _ _ _ _ _ _ h hF => ⟨h.1, hF⟩
theorem main_1_2 : Claimed_1_2 := comes_1 fun _ _ _ _ _ _ h hF => ⟨h.2.1, hF⟩
end Jvm.Pilot.@@N@@
namespace Jvm.Pilot.@@N@@
open Jvm Jvm.ClassFile Sem Op Lib Jvm.Free Jvm.Stand Jvm.Pilot.@@N@@.Jvm.D
/-! MADE BY PROGRAM (witnessworld.py) out of the Statement's table words and the real class files: 12 classes; the members and pool entries that the words name. The judged class is class 1, her method 1. -/
namespace start1
open Jvm.ClassFile
def u (s : String) : CpInfo := .utf8 (stringToUtf16 s)
/-- a pool by its gaps: so many unusable entries, then the entry; so many at the end -/
def gap : Nat → List CpInfo → List CpInfo
  | 0, r => r
  | n + 1, r => .unusable :: gap n r
def poolList (es : List (Nat × CpInfo)) (last : Nat) : List CpInfo := es.foldr (fun e r => gap e.1 (e.2 :: r)) (gap last [])
def pool (es : List (Nat × CpInfo)) (last : Nat) : Array CpInfo := ⟨poolList es last⟩
def fileOf (pool : Array CpInfo) (this : Nat) (attrs : Array Attribute := #[]) (ms : Array MethodInfo := #[]) (fl : Nat := 33) (sup : Nat := 0) (ifs : Array Nat := #[]) (fds : Array FieldInfo := #[]) : ClassFile where
  minorVersion := 0
  majorVersion := 65
  constantPool := pool
  accessFlags := fl
  thisClass := this
  superClass := sup
  interfaces := ifs
  fields := fds
  methods := ms
  attributes := attrs
def plain (name : String) (sup : Option ClassId) : Class where
  name := name
  kind := .ordinary
  loader := none
  accessFlags := 33
  super := sup
  interfaces := #[]
  cf := none
  fields := #[]
  methods := #[]
  instanceTypes := #[]
  staticTypes := #[]
  resolved := #[]
  callSites := []
  init := .initialized
  statics := none
  mirror := none

def pool0 : Array CpInfo := pool [(5, u "<init>"), (0, u "()V"), (1, .class_ 10), (1, u "java/lang/Object")] 113

def k0m0 : Method := { name := "<init>", desc := "()V", sig := { parameters := [], returnType := none }, accessFlags := 1, code := none }
/-- java/lang/Object -/
def k0 : Class := { plain "java/lang/Object" none with
  accessFlags := 33
  interfaces := #[]
  cf := some (fileOf pool0 8 #[] #[{ accessFlags := 1, nameIndex := 5, descriptorIndex := 6, attributes := #[] }] 33 0 #[] #[])
  fields := #[]
  methods := #[k0m0]
  instanceTypes := #[]
  staticTypes := #[]
  resolved := Array.replicate 124 none
  statics := none }

def pool1 : Array CpInfo := pool [(2, .class_ 4), (1, u "java/lang/Object"), (0, u "<init>"), (0, u "()V"), (0, .fieldref 8 9), (0, .class_ 10), (0, .nameAndType 11 12), (0, u "com/example/portolan/portolan/geometry/Dimension"), (0, u "XY"), (0, u "Lcom/example/portolan/portolan/geometry/Dimension;"), (0, .fieldref 8 14), (0, .nameAndType 15 12), (0, u "XYZ"), (0, .fieldref 8 17), (0, .nameAndType 18 12), (0, u "XYM"), (0, .fieldref 8 20), (0, .nameAndType 21 12), (0, u "XYZM"), (0, .methodref 8 23), (0, .nameAndType 24 25), (0, u "size"), (0, u "()I"), (0, .class_ 27), (0, u "com/example/portolan/portolan/geometry/DimensionSizePinLaw"), (2, u "law"), (0, u "(I)Z")] 3

def k1m0 : Method := { name := "<init>", desc := "()V", sig := { parameters := [], returnType := none }, accessFlags := 1, code := none }
def k1c1 : Code := { maxStack := 2, maxLocals := 4, code := code, exceptionTable := #[], attributes := #[] }
def k1m1 : Method := { name := "law", desc := "(I)Z", sig := { parameters := [.int], returnType := some .boolean }, accessFlags := 9, code := some k1c1 }
/-- com/example/portolan/portolan/geometry/DimensionSizePinLaw -/
def k1 : Class := { plain "com/example/portolan/portolan/geometry/DimensionSizePinLaw" (some 0) with
  accessFlags := 49
  interfaces := #[]
  cf := some (fileOf pool1 26 #[] #[{ accessFlags := 1, nameIndex := 5, descriptorIndex := 6, attributes := #[] }, { accessFlags := 9, nameIndex := 30, descriptorIndex := 31, attributes := #[] }] 49 2 #[] #[])
  fields := #[]
  methods := #[k1m0, k1m1]
  instanceTypes := #[]
  staticTypes := #[]
  resolved := Array.replicate 35 none
  statics := none }

def pool2 : Array CpInfo := pool [(1, .class_ 2), (0, u "java/lang/constant/Constable"), (0, .class_ 4), (0, u "java/lang/Object")] 6

/-- java/lang/constant/Constable -/
def k2 : Class := { plain "java/lang/constant/Constable" (some 0) with
  accessFlags := 1537
  interfaces := #[]
  cf := some (fileOf pool2 1 #[] #[] 1537 3 #[] #[])
  fields := #[]
  methods := #[]
  instanceTypes := #[]
  staticTypes := #[]
  resolved := Array.replicate 11 none
  statics := none }

def pool3 : Array CpInfo := pool [(1, .class_ 2), (0, u "java/lang/Comparable"), (0, .class_ 4), (0, u "java/lang/Object")] 7

/-- java/lang/Comparable -/
def k3 : Class := { plain "java/lang/Comparable" (some 0) with
  accessFlags := 1537
  interfaces := #[]
  cf := some (fileOf pool3 1 #[] #[] 1537 3 #[] #[])
  fields := #[]
  methods := #[]
  instanceTypes := #[]
  staticTypes := #[]
  resolved := Array.replicate 12 none
  statics := none }

def pool4 : Array CpInfo := pool [(1, .class_ 2), (0, u "java/io/Serializable"), (0, .class_ 4), (0, u "java/lang/Object")] 2

/-- java/io/Serializable -/
def k4 : Class := { plain "java/io/Serializable" (some 0) with
  accessFlags := 1537
  interfaces := #[]
  cf := some (fileOf pool4 1 #[] #[] 1537 3 #[] #[])
  fields := #[]
  methods := #[]
  instanceTypes := #[]
  staticTypes := #[]
  resolved := Array.replicate 7 none
  statics := none }

def pool5 : Array CpInfo := pool [(2, .class_ 4), (1, u "java/lang/Enum"), (0, u "name"), (0, u "Ljava/lang/String;"), (2, u "ordinal"), (0, u "I"), (1, .class_ 14), (1, u "java/lang/Object"), (4, u "hash"), (86, .class_ 108), (1, u "java/lang/Enum$EnumDesc"), (2, .class_ 112), (0, u "java/lang/constant/Constable"), (0, .class_ 114), (0, u "java/lang/Comparable"), (0, .class_ 116), (0, u "java/io/Serializable")] 87

/-- java/lang/Enum -/
def k5 : Class := { plain "java/lang/Enum" (some 0) with
  accessFlags := 1057
  interfaces := #[2, 3, 4]
  cf := some (fileOf pool5 2 #[.nestMembers #[106]] #[] 1057 12 #[111, 113, 115] #[{ accessFlags := 18, nameIndex := 5, descriptorIndex := 6, attributes := #[] }, { accessFlags := 18, nameIndex := 9, descriptorIndex := 10, attributes := #[] }, { accessFlags := 2, nameIndex := 19, descriptorIndex := 10, attributes := #[] }])
  fields := #[{ name := "name", type := (.object "java/lang/String"), accessFlags := 18, slot := 0, constantValue := 0 }, { name := "ordinal", type := .int, accessFlags := 18, slot := 1, constantValue := 0 }, { name := "hash", type := .int, accessFlags := 2, slot := 2, constantValue := 0 }]
  methods := #[]
  instanceTypes := #[(.object "java/lang/String"), .int, .int]
  staticTypes := #[]
  resolved := Array.replicate 204 none
  statics := none }

def pool6 : Array CpInfo := pool [(1, .class_ 2), (0, u "com/example/portolan/portolan/geometry/Dimension"), (2, u "XY"), (0, u "Lcom/example/portolan/portolan/geometry/Dimension;"), (2, u "XYZ"), (2, u "XYM"), (2, u "XYZM"), (2, u "$VALUES"), (0, u "[Lcom/example/portolan/portolan/geometry/Dimension;"), (6, .class_ 28), (1, u "java/lang/Enum"), (6, .fieldref 1 36), (0, .nameAndType 37 38), (0, u "z"), (0, u "Z"), (0, .fieldref 1 40), (0, .nameAndType 41 38), (0, u "m"), (24, u "size"), (0, u "()I")] 5

def k6c0 : Code := { maxStack := 2, maxLocals := 1, code := prog_15_method_7_code, exceptionTable := #[], attributes := #[] }
def k6m0 : Method := { name := "size", desc := "()I", sig := { parameters := [], returnType := some .int }, accessFlags := 1, code := some k6c0 }
/-- com/example/portolan/portolan/geometry/Dimension -/
def k6 : Class := { plain "com/example/portolan/portolan/geometry/Dimension" (some 5) with
  accessFlags := 16433
  interfaces := #[]
  cf := some (fileOf pool6 1 #[] #[{ accessFlags := 1, nameIndex := 66, descriptorIndex := 67, attributes := #[] }] 16433 26 #[] #[{ accessFlags := 16409, nameIndex := 5, descriptorIndex := 6, attributes := #[] }, { accessFlags := 16409, nameIndex := 9, descriptorIndex := 6, attributes := #[] }, { accessFlags := 16409, nameIndex := 12, descriptorIndex := 6, attributes := #[] }, { accessFlags := 16409, nameIndex := 15, descriptorIndex := 6, attributes := #[] }, { accessFlags := 18, nameIndex := 37, descriptorIndex := 38, attributes := #[] }, { accessFlags := 18, nameIndex := 41, descriptorIndex := 38, attributes := #[] }, { accessFlags := 4122, nameIndex := 18, descriptorIndex := 19, attributes := #[] }])
  fields := #[{ name := "XY", type := (.object "com/example/portolan/portolan/geometry/Dimension"), accessFlags := 16409, slot := 0, constantValue := 0 }, { name := "XYZ", type := (.object "com/example/portolan/portolan/geometry/Dimension"), accessFlags := 16409, slot := 1, constantValue := 0 }, { name := "XYM", type := (.object "com/example/portolan/portolan/geometry/Dimension"), accessFlags := 16409, slot := 2, constantValue := 0 }, { name := "XYZM", type := (.object "com/example/portolan/portolan/geometry/Dimension"), accessFlags := 16409, slot := 3, constantValue := 0 }, { name := "z", type := .boolean, accessFlags := 18, slot := 3, constantValue := 0 }, { name := "m", type := .boolean, accessFlags := 18, slot := 4, constantValue := 0 }, { name := "$VALUES", type := (.array (.object "com/example/portolan/portolan/geometry/Dimension")), accessFlags := 4122, slot := 4, constantValue := 0 }]
  methods := #[k6m0]
  instanceTypes := #[(.object "java/lang/String"), .int, .int, .boolean, .boolean]
  staticTypes := #[(.object "com/example/portolan/portolan/geometry/Dimension"), (.object "com/example/portolan/portolan/geometry/Dimension"), (.object "com/example/portolan/portolan/geometry/Dimension"), (.object "com/example/portolan/portolan/geometry/Dimension"), (.array (.object "com/example/portolan/portolan/geometry/Dimension"))]
  resolved := Array.replicate 73 none
  statics := some 0 }

def pool7 : Array CpInfo := pool [(1, u "java/lang/Cloneable"), (0, .class_ 1), (0, u "java/lang/Object"), (0, .class_ 3)] 3

/-- java/lang/Cloneable -/
def k7 : Class := { plain "java/lang/Cloneable" (some 0) with
  accessFlags := 1537
  interfaces := #[]
  cf := some (fileOf pool7 2 #[] #[] 1537 4 #[] #[])
  fields := #[]
  methods := #[]
  instanceTypes := #[]
  staticTypes := #[]
  resolved := Array.replicate 8 none
  statics := none }

/-- the primitive byte -/
def k8 : Class := { plain "byte" none with kind := .primitive 'B', accessFlags := 0x411 }
/-- [B -/
def k9 : Class := { plain "[B" (some 0) with kind := .array 8 .byte, interfaces := #[7, 4], accessFlags := 1041 }

/-- the primitive int -/
def k10 : Class := { plain "int" none with kind := .primitive 'I', accessFlags := 0x411 }
/-- [I -/
def k11 : Class := { plain "[I" (some 0) with kind := .array 10 .int, interfaces := #[7, 4], accessFlags := 1041 }

def heap : Heap := #[{ cls := 6, slots := #[.ref 1, .ref 2, .ref 3, .ref 4, .null], vm := .statics 6 },
  { cls := 6, slots := #[.null, .int 0, .int 0, .int 0, .int 0], vm := .none },
  { cls := 6, slots := #[.null, .int 1, .int 0, .int 1, .int 0], vm := .none },
  { cls := 6, slots := #[.null, .int 2, .int 0, .int 0, .int 1], vm := .none },
  { cls := 6, slots := #[.null, .int 3, .int 0, .int 1, .int 1], vm := .none }]
def classes : Array Class := #[k0, k1, k2, k3, k4, k5, k6, k7, k8, k9, k10, k11]
def interned : List (Array UInt16 × Addr) := []
def slotsUsed : Nat := 25
def theMethod : MethodId := ⟨1, 1⟩
def args0 : Array Value := #[.int 5]
def aboutOver (below : List Frame) : State where
  vm := { classes := classes, interned := interned.toArray }
  heap := heap
  slotsUsed := slotsUsed
  threads := #[{ frames := .invoking theMethod args0 :: below }]
def below0 : List Frame := [.native { method := ⟨0, 0⟩, args := #[] }]
def about1 : State := aboutOver below0
def p0 : Program := .bare "" "" ""
def e0 : Env := launch0.env 0 0 0
theorem w_frames : about1.frames = Frame.invoking theMethod args0 :: below0 := rfl
set_option maxRecDepth 65536 in
theorem w_args : argsFit about1.vm theMethod args0 = true := by decide +kernel
set_option maxRecDepth 65536 in
theorem w_heap : heapFits about1 = true := by decide +kernel
set_option maxRecDepth 65536 in
theorem w_runnable : about1.curStatus? = some .runnable := by decide +kernel
set_option maxRecDepth 65536 in
theorem w_alone : about1.alone = true := by decide +kernel
set_option maxRecDepth 65536 in
theorem w_named : about1.methodNamed? x = some theMethod := by decide +kernel
set_option maxRecDepth 65536 in
theorem w_hears : about1.hears theMethod below0 = true := by decide +kernel
set_option maxRecDepth 65536 in
theorem w_ripe : about1.ripe theMethod args0 below0 = true := by decide +kernel
theorem w_running : about1.status = .running := rfl
set_option maxRecDepth 65536 in
theorem w_room : about1.hasRoom e0.platform room_1 = true :=
  launch0.hasRoom_least _ room_1 (by decide +kernel) (by decide +kernel) (by decide +kernel) (by decide +kernel) (by decide +kernel) (by decide +kernel)
theorem allAtoms_all (ts : List Jvm.Cond) (a : Array Jvm.Value) (st : Jvm.State) : (allAtoms ts).before a st = ts.all (fun c => c.before a st) := by
  induction ts with
  | nil => rfl
  | cons c t ih =>
    show (Jvm.Cond.and c (allAtoms t)).before a st = _
    rw [Jvm.Cond.before_and, ih, List.all_cons]
def words1 : List Jvm.Cond := Jvm.Cond.code x code maxLocals ret :: tables_1
/-- a 'code' word, met by the world's own term for the bytes: nothing is compared byte by byte -/
theorem code_word {y : MethodName} {bytes : ByteArray} {mx : Nat} {rt : Option FieldType} {a : Array Value} {s : State} {m : MethodId} {meth : Method} {c : Code} (h1 : s.methodNamed? y = some m) (h2 : s.vm.method? m = some meth) (h3 : meth.code = some c) (h4 : c.code = bytes)
    (h5 : (c.maxLocals == mx && c.exceptionTable.isEmpty && decide (c.maxStack ≤ mostOperands) && decide (meth.sig.returnType = rt) && !meth.locks && decide (parseMethodDescriptor y.desc = some meth.sig)) = true) : (Jvm.Cond.code y bytes mx rt).before a s = true := by
  simp only [Bool.and_eq_true, beq_iff_eq, Bool.not_eq_true', decide_eq_true_eq] at h5
  obtain ⟨⟨⟨⟨⟨g1, g2⟩, g3⟩, g4⟩, g5⟩, g6⟩ := h5
  simp [Cond.before, Cond.holds, Cond.value, h1, h2, h3, h4, g1, g2, g3, g4, g5, g6]
def isCode : Jvm.Cond → Bool
  | .code _ _ _ _ => true
  | _ => false
theorem all_split {L : List Jvm.Cond} {P : Jvm.Cond → Bool} (h1 : L.all (fun c => isCode c || P c) = true) (h2 : ∀ c ∈ L.filter isCode, P c = true) : L.all P = true := by
  refine List.all_eq_true.mpr fun c hc => ?_
  have h := List.all_eq_true.mp h1 c hc
  rcases Bool.eq_false_or_eq_true (isCode c) with hi | hi
  · exact h2 c (List.mem_filter.mpr ⟨hc, hi⟩)
  · simpa [hi] using h
set_option maxRecDepth 65536 in
theorem w_c0 : (Jvm.Cond.code x code maxLocals ret).before args0 about1 = true := code_word (m := ⟨1, 1⟩) (meth := k1m1) (c := k1c1) (by decide +kernel) rfl rfl rfl (by decide +kernel)
set_option maxRecDepth 65536 in
theorem w_c1 : (Jvm.Cond.code ({ cls := "com/example/portolan/portolan/geometry/Dimension", name := "size", desc := "()I" } : Jvm.MethodName) prog_15_method_7_code (1 : Nat) (Option.some Jvm.ClassFile.FieldType.int)).before args0 about1 = true := code_word (m := ⟨6, 0⟩) (meth := k6m0) (c := k6c0) (by decide +kernel) rfl rfl rfl (by decide +kernel)
def codes1 : List Jvm.Cond := [Jvm.Cond.code x code maxLocals ret, Jvm.Cond.code ({ cls := "com/example/portolan/portolan/geometry/Dimension", name := "size", desc := "()I" } : Jvm.MethodName) prog_15_method_7_code (1 : Nat) (Option.some Jvm.ClassFile.FieldType.int)]
set_option maxRecDepth 65536 in
theorem codes_eq : words1.filter isCode = codes1 := rfl
theorem w_codes : ∀ c ∈ words1.filter isCode, c.before args0 about1 = true := by
  rw [codes_eq]
  intro c hc
  simp only [codes1, List.mem_cons, List.not_mem_nil, or_false] at hc
  rcases hc with rfl | rfl
  · exact w_c0
  · exact w_c1
set_option maxRecDepth 65536 in
theorem w_t1 : words1.all (fun c => isCode c || c.before args0 about1) = true := by decide +kernel
theorem w_tables : (allAtoms (Jvm.Cond.code x code maxLocals ret :: tables_1)).before args0 about1 = true := by
  rw [allAtoms_all]
  show words1.all (fun c => c.before args0 about1) = true
  refine all_split ?_ w_codes
  rw [w_t1]
set_option maxRecDepth 65536 in
theorem w_case : (Jvm.Cond.and given_1 narrow_1).before args0 about1 = true := by decide +kernel
theorem w_applies : (headSpec (Jvm.Cond.code x code maxLocals ret :: tables_1) room_1).applies x e0.platform about1 = true :=
  (Spec.applies_iff w_frames).mpr ⟨w_running, w_runnable, w_alone, w_named, w_hears, w_ripe, w_room, w_tables⟩
theorem atStart : AtStart classFile x code maxLocals ret World_1 tables_1 room_1 Calls_1 rest_1 Pre_1 launch0 p0 e0 about1 theMethod args0 below0 :=
  ⟨lists_1, trivial, launch0.admits_env _ _ _, launch0.least_env, fairChoices_fair.cas, fairChoices_fair.clock, w_frames, w_args, w_heap, w_applies, trivial, trivial, w_case⟩
end start1
theorem witness_1 : WitnessClaimed_1 := ⟨start1.p0, start1.e0, start1.about1, start1.theMethod, start1.args0, start1.below0, start1.atStart⟩
end Jvm.Pilot.@@N@@
