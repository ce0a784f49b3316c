import JvmDerived
import JvmDerived.Pilot.@@N@@Statement
import JvmDerived.Pilot.@@N@@Code
set_option linter.unusedVariables false
set_option linter.unusedSimpArgs false
namespace Jvm.Pilot.@@N@@
open Jvm Jvm.ClassFile Sem Op Lib Jvm.Free Jvm.Stand Jvm.LawKit Jvm.RoadKit Bundle Jvm.Pilot.@@N@@.Jvm.D
section OwnBase
variable {tb : Tables} {e : Env} {below : List Frame} {A B : State} {K : State → Outcome → Prop}
/-- from A the run comes to an end of which K holds -/
def own_Ends (tb : Tables) (e : Env) (below : List Frame) (A : State) (K : State → Outcome → Prop) : Prop := ∃ t o, Steps tb e below A t ∧ K t o
theorem own_open {P : State → Outcome → Prop} (h : ∀ K : State → Outcome → Prop, (∀ t o, P t o → K t o) → own_Ends tb e below A K) : ∃ t o, Steps tb e below A t ∧ P t o := h P fun _ _ q => q
theorem own_go (h : ∀ t, Steps tb e below B t → Steps tb e below A t) (k : own_Ends tb e below B K) : own_Ends tb e below A K := by
  obtain ⟨t, o, h1, h2⟩ := k; exact ⟨t, o, h t h1, h2⟩
theorem own_n0 {Z : State} {n0 : Nat} {h : Heap} (O : Old Z n0 h) : n0 ≤ h.size := O.1 ▸ O.2.1
theorem own_bt {P : Prop} [Decidable P] (h : P) : ¬ ((if P then (1 : Int32) else 0) = 0) := by rw [if_pos h]; decide
theorem own_bf {P : Prop} [Decidable P] (h : ¬ P) : (if P then (1 : Int32) else 0) = 0 := by rw [if_neg h]
theorem own_lt_n0 {Z : State} {n0 : Nat} {h : Heap} {a : Addr} (O : Old Z n0 h) (q : a < Z.heap.size) : a < n0 := O.1 ▸ q
section OwnRet
variable {p : Program} {l : Launch} {R : Room} {s : State} {m : MethodId} {args : Array Value} {meth : Method} {c : Code} {T : State} {locs : List Loc} {cells slots : Nat}
theorem own_retI (X : Stand p l e R s m args below meth c T locs cells slots) (hx : p.tables.exec = Jvm.exec) {pc : Nat} {Ls : Array Slot} {z : Int32} {rest : List Value} (hret : meth.sig.returnType = some .int) (hd : decode c.code pc = .ok (.ireturn, 1)) {fs : List Frame}
    (hl : ∀ (f : JFrame) (acts : List Action), f.method = m → f.locked = none → f.entered = [] → (doReturn e (T.setTop f) acts (some (.int z))).1 = T.setFrames fs) : Steps p.tables e below (T.setTop (mkF m pc Ls (.int z :: rest))) (T.setFrames fs) :=
  retOut X hx hret rfl (Or.inl ⟨rfl, Or.inl rfl, z, rfl⟩) hd hl
theorem own_retL (X : Stand p l e R s m args below meth c T locs cells slots) (hx : p.tables.exec = Jvm.exec) {pc : Nat} {Ls : Array Slot} {z : Int64} {rest : List Value} (hret : meth.sig.returnType = some .long) (hd : decode c.code pc = .ok (.lreturn, 1)) {fs : List Frame}
    (hl : ∀ (f : JFrame) (acts : List Action), f.method = m → f.locked = none → f.entered = [] → (doReturn e (T.setTop f) acts (some (.long z))).1 = T.setFrames fs) : Steps p.tables e below (T.setTop (mkF m pc Ls (.long z :: rest))) (T.setFrames fs) :=
  retOut X hx hret rfl (Or.inr (Or.inl ⟨rfl, rfl, z, rfl⟩)) hd hl
theorem own_retA (X : Stand p l e R s m args below meth c T locs cells slots) (hx : p.tables.exec = Jvm.exec) {pc : Nat} {Ls : Array Slot} {w : Value} {t : FieldType} {rest : List Value} (hret : meth.sig.returnType = some t) (ht : t.isReference = true) (hw : w.isRef = true) (hd : decode c.code pc = .ok (.areturn, 1)) {fs : List Frame}
    (hl : ∀ (f : JFrame) (acts : List Action), f.method = m → f.locked = none → f.entered = [] → (doReturn e (T.setTop f) acts (some w)).1 = T.setFrames fs) : Steps p.tables e below (T.setTop (mkF m pc Ls (w :: rest))) (T.setFrames fs) := by
  have hn : narrow t w = w := by cases t <;> first | rfl | exact Bool.noConfusion ht
  exact retOut X hx hret hn (Or.inr (Or.inr (Or.inr (Or.inr ⟨rfl, ht, hw⟩)))) hd hl
end OwnRet
end OwnBase
theorem own_fldI {Z : State} {args : Array Value} {t : Term} {C n d : String} {x : Addr} {k : Int32} (ev : t.eval args Z none [] Z = some (.ref x)) (h : (Jvm.Cond.eq (Term.field t C n d) (Term.int k)).value args Z none Z [] = some true) : Fld Z Z.heap x C n d (.int k) := by
  apply Fld.start
  rw [← fld_at (t := t) (args := args) (first := Z) (o := none) (idx := []) ev]
  obtain ⟨y, z, h1, h2, -, -⟩ := cmp_v (Or.inl h)
  have h3 : z = .int k := Option.some.inj (h2.symm.trans (Term.int_eval k))
  subst h3
  rw [h1]
  simp only [Jvm.Cond.value] at h
  rw [h1, h2] at h
  cases y <;> simp at h ⊢
  exact h

section OwnSuper
theorem own_wpSpecial {Q : Unit → Pre} {E : CtlPost} {e : Env} {d : Bool} {acts : List Action} {s : State} {f : JFrame} {index a : Nat} {m : MethodId} {ck k : Class} {meth : Method} {args rest : List Value} {cell : Cell} {kcell : Class}
    (hs : s.topJava?.isSome) (hnamed : Op.namesResolved s.vm f.method.cls index m.cls) (hr : s.vm.methodReady f.method.cls index m)
    (hck : s.vm.classes[f.method.cls]? = some ck) (hk : s.vm.classes[m.cls]? = some k) (hm : s.vm.method? m = some meth) (hname : meth.name ≠ "<init>") (hstatic : meth.isStatic = false) (habs : meth.isAbstract = false)
    (hsup : ck.super = some m.cls) (hni : ck.isInterface = false) (hfound : lookupSpecial s.vm m.cls meth.name meth.desc = .method m)
    (hlen : args.length = meth.sig.parameters.length) (hstack : f.stack = args.reverse ++ .ref a :: rest)
    (hcell : s.heap[a]? = some cell) (hobj : ∀ c, cell.vm ≠ .statics c) (hkcell : s.vm.classes[cell.cls]? = some kcell) :
    wp (Op.invokespecial.sem index) Q E e d acts (s.setTop f) ↔ E (.invoke m (.ref a :: args).toArray) acts (s.setTop { f with stack := rest }) := by
  obtain ⟨kc, cf, ci, n, h1, h2, h3, h4⟩ := hnamed
  have hpre : ∀ {Q' : ClassId → Pre} {d' : Bool} {acts' : List Action}, wp (Jvm.refClassAt index) Q' E e d' acts' (s.setTop f) ↔ Q' m.cls d' acts' (s.setTop f) := by
    intro Q' d' acts'
    rcases h3 with h3 | h3 <;>
      simp [Jvm.refClassAt, Jvm.constantAt, State.method?_setTop f hs, h1, h2, h3, W.resolveClassAt_ready (State.method?_setTop f hs) h4]
  have hsel : ∀ b : Bool, (if b = true then m.cls else m.cls) = m.cls := fun b => by cases b <;> rfl
  simp only [Op.invokespecial.sem, wp_bind', W.resolveMethodAt_ready (State.method?_setTop f hs) hr]
  simp only [W.theMethod, State.vm_setTop, hm, Option.some.injEq, exists_eq_left', wp_bind', hpre]
  simp [hs, hname, hstatic, habs, hck, hk, hm, hsup, hni, hfound, State.method?_setTop f hs, Jvm.popArgs, ← hlen, popN_top hs hstack, hcell, hobj, hkcell]
end OwnSuper
section OwnSuperB
theorem own_superCold {tb : Tables} [Ours tb] {e : Env} {below : List Frame} {s U : State} {mm : MethodId} {cc : Code} (h : At U mm cc below) (hexec : tb.exec = Jvm.exec) (hW : s.WarmedH U.vm)
    (hpl : e.platform.magicAccessors = ({} : Platform).magicAccessors) {own : String} (hown : s.vm.findClass own = some mm.cls) {idx : Nat} {t : MethodName} (ht1 : t.name ≠ "<init>")
    (hnot : t.cls ≠ "java/lang/invoke/MethodHandle" ∧ t.cls ≠ "java/lang/invoke/VarHandle") {args : Array Value} {bytes : ByteArray} {maxL : Nat} {ret : Option FieldType}
    (hlink : (Jvm.Cond.methodLink own idx t).before args s = true) (hinst : (Jvm.Cond.instanceMethod t).before args s = true) (hcode : (Jvm.Cond.code t bytes maxL ret).before args s = true) (hsup : (Jvm.Cond.superclass own t.cls).before args s = true)
    {f : JFrame} (hf : f.method = mm) {a : Addr} {argsL rest : List Value} (hlen : ∀ sig, parseMethodDescriptor t.desc = some sig → argsL.length = sig.parameters.length) (hstack : f.stack = argsL.reverse ++ .ref a :: rest) (hd : decode cc.code f.pc = .ok (.invokespecial idx, 3))
    {cell : Cell} {kcell : Class} (hcell : U.heap[a]? = some cell) (hobj : ∀ c, cell.vm ≠ .statics c) (hkcell : s.vm.classes[cell.cls]? = some kcell) :
    ∃ tm vm', s.methodNamed? t = some tm ∧ s.WarmedH vm' ∧
      ∀ target, (∀ acts, Steps tb e below (doInvoke e ((U.setVm vm').setTop { f with stack := rest }) acts tm (.ref a :: argsL).toArray).1 target) → Steps tb e below (U.setTop f) target := by
  subst hf
  obtain ⟨obj, methO, hnO, hmO, hstO, habO⟩ := Cond.instanceMethod_spec hinst
  obtain ⟨methO', cO, hmO', -, -, -, -, -, -, hsigO⟩ := Cond.code_spec hnO hcode
  cases hmO.symm.trans hmO'
  obtain ⟨kO, hkO, hnameO⟩ := className_of_methodNamed hnO
  obtain ⟨hnameMO, hdescO⟩ := name_of_methodNamed hnO hmO
  obtain ⟨cn, dk0, kp, hcn, hdk0, hkp, hsuper, -, -, hnid⟩ := Cond.superclass_spec hown hsup
  have hcn' := findClass_of_methodNamed hnO
  cases hcn.symm.trans hcn'
  obtain ⟨ci, hl, hright⟩ := Cond.methodLink_spec hown hnO hlink e.platform hpl
  have hE : s.MethodEntry e U.vm f.method.cls idx obj ci := State.methodEntry hW hl hright fun k hk => by
    cases hkO.symm.trans hk
    rw [hnameO]; exact hnot
  obtain ⟨dk, cf, nt, _, _, via, _, _, hd', hcf, hcp, -⟩ := hl.here
  cases hdk0.symm.trans hd'
  have hcp' : cf.constantPool[idx]? = some (.methodref ci nt) ∨ cf.constantPool[idx]? = some (.interfaceMethodref ci nt) := by
    cases via
    · exact Or.inl (by simpa using hcp)
    · exact Or.inr (by simpa using hcp)
  have hwarm := hE.warmed
  have hreadyM := hE.ready
  have hreadyC := hE.classReady
  generalize hvm₂ : U.vm.called f.method.cls ci idx obj = vm₂ at hwarm hreadyM hreadyC
  obtain ⟨dk₂, hdk₂, hed₂⟩ := hwarm.alike.2.2 _ _ hd'
  obtain ⟨kO₂, hkO₂, heO₂⟩ := hwarm.alike.2.2 _ _ hkO
  obtain ⟨kc₂, hkc₂, hec₂⟩ := hwarm.alike.2.2 _ _ hkcell
  have hmO₂ : vm₂.method? obj = some methO := by rw [hwarm.alike.method?]; exact hmO
  have hfound : lookupSpecial vm₂ obj.cls methO.name methO.desc = .method obj := by
    rw [hwarm.alike.lookupSpecial, hdescO, hnameMO]; exact lookupSpecial_of_named hnO hmO hstO
  refine ⟨obj, vm₂, hnO, hwarm, fun target hrest => ?_⟩
  have hAt₂ : At (U.setVm vm₂) f.method cc below := h.setVm (hW.alike.symm.trans hwarm.alike)
  jvm_step h [hexec, hd, invokespecial.wp_cold (e := e) (s := U) (s₀ := s) (f := f) (meth := methO) h.top hE hd' hcf hcp' hmO, hvm₂,
    own_wpSpecial (e := e) (s := U.setVm vm₂) (k := kO₂) (ck := dk₂) (meth := methO) (m := obj) (a := a) (args := argsL) (rest := rest) (f := f) (cell := cell) (kcell := kc₂)
      hAt₂.top ⟨dk₂, cf, ci, nt, hdk₂, by rw [hed₂]; exact hcf, hcp', hreadyC⟩ hreadyM hdk₂ hkO₂ hmO₂ (by rw [hnameMO]; exact ht1) hstO habO (by rw [hed₂]; exact hsuper) (by rw [hed₂]; exact hnid) hfound (hlen _ hsigO) hstack hcell hobj hkc₂]
  exact hrest
variable {p : Program} {l : Launch} {e : Env} {R : Room} {s : State} {m : MethodId} {args : Array Value} {below : List Frame} {meth : Method} {c : Code} {T : State} {locs : List Loc} {cells slots : Nat} {Z : State} {a0 : Array Value} {h : Heap}
/-- super.m(..): a superclass's method by its contract, whatever the tables say of that class's flags -/
theorem own_superBack (X : Stand p l e R s m args below meth c T locs cells slots) (hexec : p.tables.exec = Jvm.exec) (hZ : Z.Warmed39 s.vm) {own C : String} {index : Nat} {y : MethodName} (hy1 : y.name ≠ "<init>")
    (hown : s.vm.findClass own = some m.cls) (w1 : (Jvm.Cond.methodLink own index y).before a0 Z = true) (w2 : (Jvm.Cond.instanceMethod y).before a0 Z = true)
    {bytes : ByteArray} {maxL : Nat} {ret : Option FieldType} (w3 : (Jvm.Cond.code y bytes maxL ret).before a0 Z = true) (w4 : (Jvm.Cond.superclass own y.cls).before a0 Z = true)
    (hy : y.cls ≠ "java/lang/invoke/MethodHandle" ∧ y.cls ≠ "java/lang/invoke/VarHandle")
    {W : Nat} {Pre : Pt → Array Value → Prop} {Post : Pt → Array Value → Option Value → Pt → Prop} (hK : Back l R p e below s args y 3 W Pre Post)
    (eT : T.heap = h) {a : Addr} (E : Exa Z h a C)
    {g : JFrame} (hg : g.method = m) (hsize : g.locals.size = c.maxLocals) {s₀ : State} (hcome : Steps p.tables e below s₀ (T.setTop g)) {argsL rest : List Value}
    (hlen : ∀ sig, parseMethodDescriptor y.desc = some sig → argsL.length = sig.parameters.length) (hstack : g.stack = argsL.reverse ++ .ref a :: rest) (hW : 2 * g.monitorRoom + (rest.map fun v => v.category).sum ≤ W)
    (hdg : decode c.code g.pc = .ok (.invokespecial index, 3)) (hpre : ∀ vm₁, s.WarmedH vm₁ → Pre ⟨T.setVm vm₁, locs, cells, slots⟩ (.ref a :: argsL).toArray) :
    ∃ (v : Option Value) (vm₁ : Vm) (B : Pt), s.WarmedH vm₁ ∧ Stand p l e R s m args below meth c B.U B.locs B.cells B.slots ∧ Post ⟨T.setVm vm₁, locs, cells, slots⟩ (.ref a :: argsL).toArray v B ∧
      Steps p.tables e below s₀ (B.U.setTop { g with pc := g.pc + 3, stack := v.toList ++ rest }) := by
  have hpl : e.platform.magicAccessors = ({} : Platform).magicAccessors := by rw [X.admits.platform]
  obtain ⟨cell, k, h1, h2, h3, h4, -⟩ := E
  obtain ⟨k', hk', -⟩ := hZ.alike.2.2 _ _ h3
  obtain ⟨mk, vm₁, hnamed, hW₁, hstep₁⟩ := own_superCold (e := e) (args := args) X.here hexec X.warmed hpl hown hy1 hy (mvT hZ w1) (mvT hZ w2) (mvT hZ w3) (mvT hZ w4) (f := g) hg hlen hstack hdg (by rw [eT]; exact h1) (fun q r => by rw [r] at h4; cases h4) hk'
  have X₁ := X.noted hW₁
  obtain ⟨v, B, X', hpost, hsteps⟩ := hK m meth c ⟨T.setVm vm₁, locs, cells, slots⟩ { g with stack := rest } (.invokespecial index) mk (.ref a :: argsL).toArray X₁ hg hsize hdg hW (X₁.named hnamed) (hpre vm₁ hW₁)
  exact ⟨v, vm₁, B, hW₁, X', hpost, (hcome.trans (hstep₁ _ fun acts => by rw [doInvoke_state]; exact Steps.refl _)).trans hsteps⟩
end OwnSuperB

theorem own_d8_0 : decode jdk_22_method_1_code 0 = .ok (.aload_n 0, 1) := by decide +kernel
theorem own_d8_1 : decode jdk_22_method_1_code 1 = .ok (.invokespecial 1, 3) := by decide +kernel
theorem own_d8_4 : decode jdk_22_method_1_code 4 = .ok (.return_, 1) := by decide +kernel
theorem own_pn_0 : plainName "java/util/AbstractCollection" = true := by first | (simp [plainName, overriddenIn]; done) | decide +kernel
theorem own_ef_abc (m : MethodId) (x0 : Addr)  : entryFrame m #[(.ref x0)] 1 = mkF m 0 #[.val (.ref x0)] [] := by first | (simp [entryFrame, mkF, argsToLocals, Value.category]; done) | rfl
def own_Q_abc (Z : State) (a : Addr) (h0 : Heap) (n0 : Nat) (v : Option Value) (h : Heap) (L : List Loc) : Prop := v = none ∧ Fr n0 L ∧ h = h0
set_option maxRecDepth 65536 in
set_option maxHeartbeats 40000000 in
theorem own_rm_abc (l : Launch) (Z : State) (a0 : Array Value) (hw : ∀ d ∈ tables_1, d.before a0 Z = true) (ws : List Jvm.Cond) (a : Addr) (h0 : Heap) (n0 : Nat) (O0 : Old Z n0 h0) :
    MetFree l (⟨"java/util/AbstractCollection", "<init>", "()V"⟩ : MethodName) (head1 (Jvm.Cond.code (⟨"java/util/AbstractCollection", "<init>", "()V"⟩ : MethodName) jdk_22_method_1_code 1 none :: ws) ({ frames := 1, cells := 0, slots := 0, locals := 12 } : Room)) (fun ar9 U => ar9 = #[(.ref a)] ∧ Z.Warmed39 U.vm ∧ U.heap = h0) (fun _ _ _ _ _ => True) (fun _ U o U' => ∃ v L, o = .returned v ∧ own_Q_abc Z a h0 n0 v U'.heap L ∧ FrameEnd U o U' L ({ frames := 1, cells := 0, slots := 0, locals := 12 } : Room).cells ({ frames := 1, cells := 0, slots := 0, locals := 12 } : Room).slots) := by
  refine MetFree.of_bodySF (plainFor_of_name own_pn_0) hisR ?_
  intro p e s m args below meth c s₁ Bd hml0 hP hK0
  obtain ⟨rfl, hZ, hh⟩ := hP
  have hx := Bd.exec
  have hby := Bd.bytes
  have hml : c.maxLocals = 1 := hml0
  have hown : s.vm.findClass "java/util/AbstractCollection" = some m.cls := findClass_of_methodNamed Bd.named
  have hnm := (name_of_methodNamed Bd.named Bd.method).1
  have X0 : Stand p l e ({ frames := 1, cells := 0, slots := 0, locals := 12 } : Room) s m #[(.ref a)] below meth c s₁ [] 0 0 := Stand.of_body Bd
  have e0 : s₁.heap = h0 := by rw [← hh, Bd.state]; rfl
  have N0 := Fr.nil n0
  refine own_open fun K hK => ?_
  refine own_go (B := s₁.setTop (mkF m 0 #[.val (.ref a)] [])) (fun t k => castTop (own_ef_abc m a) k) ?_
  refine own_go (B := s₁.setTop (mkF m 1 #[.val (.ref a)] [(.ref a)])) (fun t k => XS.aloadN X0.here hx rfl (hb hby own_d8_0) rfl rfl k) ?_
  obtain ⟨T1, X1, e1, st1⟩ := initO X0 hx hZ hown (hw _ (List.mem_of_getElem? (i := 42) rfl)) (hw _ (List.mem_of_getElem? (i := 15) rfl)) (hw _ (List.mem_of_getElem? (i := 16) rfl)) e0 (g := (mkF m 1 #[.val (.ref a)] [(.ref a)])) rfl (by rw [hml]; rfl) rfl (hb hby own_d8_1) (by decide) (W := 0) (by show 2 * 0 + _ ≤ _; exact Nat.le_of_eq rfl) (by decide)
  refine own_go (B := T1.setTop (mkF m 4 #[.val (.ref a)] [])) (fun t k => st1 _ k) ?_
  obtain ⟨fs, hr, hrun, hended, hW, hsame⟩ := X1.leave (v := none) (fun _ => rfl)
  refine ⟨_, _, X1.returnOut hx Bd.returns (hb hby own_d8_4) hr, hK _ _ ⟨hrun, hended, _, _, rfl, ?_, ⟨_, rfl⟩, hW, hsame.mono (by decide) (by decide)⟩⟩
  show own_Q_abc Z a h0 n0 _ T1.heap _
  rw [e1]
  exact ⟨rfl, N0, rfl⟩
theorem own_d10_0 : decode jdk_71_method_1_code 0 = .ok (.aload_n 0, 1) := by decide +kernel
theorem own_d10_1 : decode jdk_71_method_1_code 1 = .ok (.invokespecial 1, 3) := by decide +kernel
theorem own_d10_4 : decode jdk_71_method_1_code 4 = .ok (.return_, 1) := by decide +kernel
theorem own_pn_1 : plainName "java/util/AbstractMap" = true := by first | (simp [plainName, overriddenIn]; done) | decide +kernel
theorem own_ef_abm (m : MethodId) (x0 : Addr)  : entryFrame m #[(.ref x0)] 1 = mkF m 0 #[.val (.ref x0)] [] := by first | (simp [entryFrame, mkF, argsToLocals, Value.category]; done) | rfl
def own_Q_abm (Z : State) (a : Addr) (h0 : Heap) (n0 : Nat) (v : Option Value) (h : Heap) (L : List Loc) : Prop := v = none ∧ Fr n0 L ∧ h = h0
set_option maxRecDepth 65536 in
set_option maxHeartbeats 40000000 in
theorem own_rm_abm (l : Launch) (Z : State) (a0 : Array Value) (hw : ∀ d ∈ tables_1, d.before a0 Z = true) (ws : List Jvm.Cond) (a : Addr) (h0 : Heap) (n0 : Nat) (O0 : Old Z n0 h0) :
    MetFree l (⟨"java/util/AbstractMap", "<init>", "()V"⟩ : MethodName) (head1 (Jvm.Cond.code (⟨"java/util/AbstractMap", "<init>", "()V"⟩ : MethodName) jdk_71_method_1_code 1 none :: ws) ({ frames := 1, cells := 0, slots := 0, locals := 12 } : Room)) (fun ar9 U => ar9 = #[(.ref a)] ∧ Z.Warmed39 U.vm ∧ U.heap = h0) (fun _ _ _ _ _ => True) (fun _ U o U' => ∃ v L, o = .returned v ∧ own_Q_abm Z a h0 n0 v U'.heap L ∧ FrameEnd U o U' L ({ frames := 1, cells := 0, slots := 0, locals := 12 } : Room).cells ({ frames := 1, cells := 0, slots := 0, locals := 12 } : Room).slots) := by
  refine MetFree.of_bodySF (plainFor_of_name own_pn_1) hisR ?_
  intro p e s m args below meth c s₁ Bd hml0 hP hK0
  obtain ⟨rfl, hZ, hh⟩ := hP
  have hx := Bd.exec
  have hby := Bd.bytes
  have hml : c.maxLocals = 1 := hml0
  have hown : s.vm.findClass "java/util/AbstractMap" = some m.cls := findClass_of_methodNamed Bd.named
  have hnm := (name_of_methodNamed Bd.named Bd.method).1
  have X0 : Stand p l e ({ frames := 1, cells := 0, slots := 0, locals := 12 } : Room) s m #[(.ref a)] below meth c s₁ [] 0 0 := Stand.of_body Bd
  have e0 : s₁.heap = h0 := by rw [← hh, Bd.state]; rfl
  have N0 := Fr.nil n0
  refine own_open fun K hK => ?_
  refine own_go (B := s₁.setTop (mkF m 0 #[.val (.ref a)] [])) (fun t k => castTop (own_ef_abm m a) k) ?_
  refine own_go (B := s₁.setTop (mkF m 1 #[.val (.ref a)] [(.ref a)])) (fun t k => XS.aloadN X0.here hx rfl (hb hby own_d10_0) rfl rfl k) ?_
  obtain ⟨T3, X3, e3, st3⟩ := initO X0 hx hZ hown (hw _ (List.mem_of_getElem? (i := 94) rfl)) (hw _ (List.mem_of_getElem? (i := 15) rfl)) (hw _ (List.mem_of_getElem? (i := 16) rfl)) e0 (g := (mkF m 1 #[.val (.ref a)] [(.ref a)])) rfl (by rw [hml]; rfl) rfl (hb hby own_d10_1) (by decide) (W := 0) (by show 2 * 0 + _ ≤ _; exact Nat.le_of_eq rfl) (by decide)
  refine own_go (B := T3.setTop (mkF m 4 #[.val (.ref a)] [])) (fun t k => st3 _ k) ?_
  obtain ⟨fs, hr, hrun, hended, hW, hsame⟩ := X3.leave (v := none) (fun _ => rfl)
  refine ⟨_, _, X3.returnOut hx Bd.returns (hb hby own_d10_4) hr, hK _ _ ⟨hrun, hended, _, _, rfl, ?_, ⟨_, rfl⟩, hW, hsame.mono (by decide) (by decide)⟩⟩
  show own_Q_abm Z a h0 n0 _ T3.heap _
  rw [e3]
  exact ⟨rfl, N0, rfl⟩
theorem own_d9_0 : decode jdk_39_method_1_code 0 = .ok (.aload_n 0, 1) := by decide +kernel
theorem own_d9_1 : decode jdk_39_method_1_code 1 = .ok (.invokespecial 1, 3) := by decide +kernel
theorem own_pd_0 : parseMethodDescriptor "()V" = some ⟨[], none⟩ := by decide +kernel
theorem own_d9_4 : decode jdk_39_method_1_code 4 = .ok (.aload_n 0, 1) := by decide +kernel
theorem own_d9_5 : decode jdk_39_method_1_code 5 = .ok (.iconst 0, 1) := by decide +kernel
theorem own_d9_6 : decode jdk_39_method_1_code 6 = .ok (.putfield 7, 3) := by decide +kernel
theorem own_d9_9 : decode jdk_39_method_1_code 9 = .ok (.return_, 1) := by decide +kernel
theorem own_pn_2 : plainName "java/util/AbstractList" = true := by first | (simp [plainName, overriddenIn]; done) | decide +kernel
theorem own_ef_abl (m : MethodId) (x0 : Addr)  : entryFrame m #[(.ref x0)] 1 = mkF m 0 #[.val (.ref x0)] [] := by first | (simp [entryFrame, mkF, argsToLocals, Value.category]; done) | rfl
def own_Q_abl (Z : State) (a : Addr) (h0 : Heap) (n0 : Nat) (v : Option Value) (h : Heap) (L : List Loc) : Prop := v = none ∧ Fr n0 L ∧ Keep h0 h [a] ∧ Exa Z h a "java/util/ArrayList" ∧ Fld Z h a "java/util/AbstractList" "modCount" "I" (.int (0 : Int32)) ∧ Fld Z h a "java/util/ArrayList" "elementData" "[Ljava/lang/Object;" .null ∧ Fld Z h a "java/util/ArrayList" "size" "I" (.int (0 : Int32))
set_option maxRecDepth 65536 in
set_option maxHeartbeats 40000000 in
theorem own_rm_abl (l : Launch) (Z : State) (a0 : Array Value) (hw : ∀ d ∈ tables_1, d.before a0 Z = true) (ws : List Jvm.Cond) (a : Addr) (h0 : Heap) (n0 : Nat) (O0 : Old Z n0 h0) (E0 : Exa Z h0 a "java/util/ArrayList") (F1 : Fld Z h0 a "java/util/AbstractList" "modCount" "I" (.int (0 : Int32))) (F2 : Fld Z h0 a "java/util/ArrayList" "elementData" "[Ljava/lang/Object;" .null) (F3 : Fld Z h0 a "java/util/ArrayList" "size" "I" (.int (0 : Int32))) (G4 : n0 ≤ a) :
    MetFree l (⟨"java/util/AbstractList", "<init>", "()V"⟩ : MethodName) (head1 (Jvm.Cond.code (⟨"java/util/AbstractList", "<init>", "()V"⟩ : MethodName) jdk_39_method_1_code 1 none :: ws) ({ frames := 2, cells := 0, slots := 0, locals := 24 } : Room)) (fun ar9 U => ar9 = #[(.ref a)] ∧ Z.Warmed39 U.vm ∧ U.heap = h0) (fun _ _ _ _ _ => True) (fun _ U o U' => ∃ v L, o = .returned v ∧ own_Q_abl Z a h0 n0 v U'.heap L ∧ FrameEnd U o U' L ({ frames := 2, cells := 0, slots := 0, locals := 24 } : Room).cells ({ frames := 2, cells := 0, slots := 0, locals := 24 } : Room).slots) := by
  refine MetFree.of_bodySF (plainFor_of_name own_pn_2) hisR ?_
  intro p e s m args below meth c s₁ Bd hml0 hP hK0
  obtain ⟨rfl, hZ, hh⟩ := hP
  have hx := Bd.exec
  have hby := Bd.bytes
  have hml : c.maxLocals = 1 := hml0
  have hown : s.vm.findClass "java/util/AbstractList" = some m.cls := findClass_of_methodNamed Bd.named
  have hnm := (name_of_methodNamed Bd.named Bd.method).1
  have X0 : Stand p l e ({ frames := 2, cells := 0, slots := 0, locals := 24 } : Room) s m #[(.ref a)] below meth c s₁ [] 0 0 := Stand.of_body Bd
  have e0 : s₁.heap = h0 := by rw [← hh, Bd.state]; rfl
  have N0 := Fr.nil n0
  have K0 := Keep.refl h0 [a]
  refine own_open fun K hK => ?_
  refine own_go (B := s₁.setTop (mkF m 0 #[.val (.ref a)] [])) (fun t k => castTop (own_ef_abl m a) k) ?_
  refine own_go (B := s₁.setTop (mkF m 1 #[.val (.ref a)] [(.ref a)])) (fun t k => XS.aloadN X0.here hx rfl (hb hby own_d9_0) rfl rfl k) ?_
  obtain ⟨_, _, ⟨T5, L5, k5, n5⟩, -, X5, ⟨Lc5, hQ5, l5, y5, z5⟩, st5⟩ := X0.specialBack hx (y := (⟨"java/util/AbstractCollection", "<init>", "()V"⟩ : MethodName)) rfl hown (mvT hZ (hw _ (List.mem_of_getElem? (i := 36) rfl))) (mvT hZ (hw _ (List.mem_of_getElem? (i := 37) rfl))) (mvT hZ (hw _ (List.mem_of_getElem? (i := 41) rfl))) (by decide) (backOf (W := 0) (own_rm_abc l Z a0 hw [] a h0 n0 O0 ) hZ (hw _ (List.mem_of_getElem? (i := 41) rfl)) (hw _ (List.mem_of_getElem? (i := 40) rfl)) (by decide) (by decide)) (g := (mkF m 1 #[.val (.ref a)] [(.ref a)])) rfl (by rw [hml]; rfl) (Steps.refl _) (a := a) (argsL := []) (rest := []) (lenOf own_pd_0 rfl) rfl (by show 2 * 0 + _ ≤ _; exact Nat.le_of_eq rfl) (hb hby own_d9_1) (fun _ _ => ⟨rfl, e0, (by decide : 0 + 0 ≤ _), (by decide : 0 + 0 ≤ _)⟩)
  dsimp only [Pt.U, Pt.locs, Pt.cells, Pt.slots] at X5 l5 y5 z5 st5 hQ5
  subst l5 y5 z5
  obtain ⟨rfl, N5q, eh5⟩ := hQ5
  have N5 := Fr.app N0 N5q
  refine own_go (B := T5.setTop (mkF m 4 #[.val (.ref a)] [])) (fun t k => st5.trans k) ?_
  refine own_go (B := T5.setTop (mkF m 5 #[.val (.ref a)] [(.ref a)])) (fun t k => XS.aloadN X5.here hx rfl (hb hby own_d9_4) rfl rfl k) ?_
  refine own_go (B := T5.setTop (mkF m 6 #[.val (.ref a)] [(.int (0 : Int32)), (.ref a)])) (fun t k => XS.iconst X5.here hx rfl (hb hby own_d9_5) k) ?_
  obtain ⟨T6, h6, X6, e6, W6, st6⟩ := putF X5 hx hZ hown (host := "") (Or.inl (hw _ (List.mem_of_getElem? (i := 43) rfl))) Via.refl eh5 F1 E0 (Or.inl (hw _ (List.mem_of_getElem? (i := 44) rfl))) (hw _ (List.mem_of_getElem? (i := 25) rfl)) (ty := .int) (by decide) rfl rfl (g := (mkF m 6 #[.val (.ref a)] [(.int (0 : Int32)), (.ref a)])) rfl rfl (hb hby own_d9_6)
  have Fw6 := F1.same W6
  have N6 := Fr.snoc X6 N5 G4
  have O6 := O0.wr W6 G4
  have K6 := K0.wr W6 (Or.inl (by simp))
  refine own_go (B := T6.setTop (mkF m 9 #[.val (.ref a)] [])) (fun t k => st6 _ k) ?_
  obtain ⟨fs, hr, hrun, hended, hW, hsame⟩ := X6.leave (v := none) (fun _ => rfl)
  have f8 := (E0.wr W6)
  have f9 := (F2.other W6 (Or.inr (slot_ne (Or.inl (hw _ (List.mem_of_getElem? (i := 47) rfl))) (Or.inl (hw _ (List.mem_of_getElem? (i := 44) rfl))) (by decide) (t := (.array (.object "java/lang/Object"))) (t' := .int) (by decide) (by decide))))
  have f10 := (F3.other W6 (Or.inr (slot_ne (Or.inl (hw _ (List.mem_of_getElem? (i := 144) rfl))) (Or.inl (hw _ (List.mem_of_getElem? (i := 44) rfl))) (by decide) (t := .int) (t' := .int) (by decide) (by decide))))
  refine ⟨_, _, X6.returnOut hx Bd.returns (hb hby own_d9_9) hr, hK _ _ ⟨hrun, hended, _, _, rfl, ?_, ⟨_, rfl⟩, hW, hsame.mono (by decide) (by decide)⟩⟩
  show own_Q_abl Z a h0 n0 _ T6.heap _
  rw [e6]
  exact ⟨rfl, N6, K6, f8, Fw6, f9, f10⟩
theorem own_d11_0 : decode jdk_38_method_2_code 0 = .ok (.aload_n 0, 1) := by decide +kernel
theorem own_d11_1 : decode jdk_38_method_2_code 1 = .ok (.invokespecial 1, 3) := by decide +kernel
theorem own_d11_4 : decode jdk_38_method_2_code 4 = .ok (.aload_n 0, 1) := by decide +kernel
theorem own_d11_5 : decode jdk_38_method_2_code 5 = .ok (.getstatic 39, 3) := by decide +kernel
theorem own_d11_8 : decode jdk_38_method_2_code 8 = .ok (.putfield 9, 3) := by decide +kernel
theorem own_d11_11 : decode jdk_38_method_2_code 11 = .ok (.return_, 1) := by decide +kernel
theorem own_pn_3 : plainName "java/util/ArrayList" = true := by first | (simp [plainName, overriddenIn]; done) | decide +kernel
theorem own_ef_al (m : MethodId) (x0 : Addr)  : entryFrame m #[(.ref x0)] 1 = mkF m 0 #[.val (.ref x0)] [] := by first | (simp [entryFrame, mkF, argsToLocals, Value.category]; done) | rfl
def own_Q_al (Z : State) (a w_DEF : Addr) (h0 : Heap) (n0 : Nat) (v : Option Value) (h : Heap) (L : List Loc) : Prop := v = none ∧ Fr n0 L ∧ Keep h0 h [a] ∧ Exa Z h a "java/util/ArrayList" ∧ Fld Z h a "java/util/AbstractList" "modCount" "I" (.int (0 : Int32)) ∧ Fld Z h a "java/util/ArrayList" "elementData" "[Ljava/lang/Object;" (.ref w_DEF) ∧ Fld Z h a "java/util/ArrayList" "size" "I" (.int (0 : Int32))
set_option maxRecDepth 65536 in
set_option maxHeartbeats 40000000 in
theorem own_rm_al (l : Launch) (Z : State) (a0 : Array Value) (hw : ∀ d ∈ tables_1, d.before a0 Z = true) (ws : List Jvm.Cond) (a w_DEF : Addr) (h0 : Heap) (n0 : Nat) (O0 : Old Z n0 h0) (S_DEF : Sta Z Z.heap "java/util/ArrayList" "DEFAULTCAPACITY_EMPTY_ELEMENTDATA" "[Ljava/lang/Object;" (.ref w_DEF)) (E1 : Exa Z h0 a "java/util/ArrayList") (F2 : Fld Z h0 a "java/util/AbstractList" "modCount" "I" (.int (0 : Int32))) (F3 : Fld Z h0 a "java/util/ArrayList" "elementData" "[Ljava/lang/Object;" .null) (F4 : Fld Z h0 a "java/util/ArrayList" "size" "I" (.int (0 : Int32))) (G5 : n0 ≤ a) :
    MetFree l (⟨"java/util/ArrayList", "<init>", "()V"⟩ : MethodName) (head1 (Jvm.Cond.code (⟨"java/util/ArrayList", "<init>", "()V"⟩ : MethodName) jdk_38_method_2_code 1 none :: ws) ({ frames := 3, cells := 0, slots := 0, locals := 36 } : Room)) (fun ar9 U => ar9 = #[(.ref a)] ∧ Z.Warmed39 U.vm ∧ U.heap = h0) (fun _ _ _ _ _ => True) (fun _ U o U' => ∃ v L, o = .returned v ∧ own_Q_al Z a w_DEF h0 n0 v U'.heap L ∧ FrameEnd U o U' L ({ frames := 3, cells := 0, slots := 0, locals := 36 } : Room).cells ({ frames := 3, cells := 0, slots := 0, locals := 36 } : Room).slots) := by
  refine MetFree.of_bodySF (plainFor_of_name own_pn_3) hisR ?_
  intro p e s m args below meth c s₁ Bd hml0 hP hK0
  obtain ⟨rfl, hZ, hh⟩ := hP
  have hx := Bd.exec
  have hby := Bd.bytes
  have hml : c.maxLocals = 1 := hml0
  have hown : s.vm.findClass "java/util/ArrayList" = some m.cls := findClass_of_methodNamed Bd.named
  have hnm := (name_of_methodNamed Bd.named Bd.method).1
  have X0 : Stand p l e ({ frames := 3, cells := 0, slots := 0, locals := 36 } : Room) s m #[(.ref a)] below meth c s₁ [] 0 0 := Stand.of_body Bd
  have e0 : s₁.heap = h0 := by rw [← hh, Bd.state]; rfl
  have N0 := Fr.nil n0
  have K0 := Keep.refl h0 [a]
  refine own_open fun K hK => ?_
  refine own_go (B := s₁.setTop (mkF m 0 #[.val (.ref a)] [])) (fun t k => castTop (own_ef_al m a) k) ?_
  refine own_go (B := s₁.setTop (mkF m 1 #[.val (.ref a)] [(.ref a)])) (fun t k => XS.aloadN X0.here hx rfl (hb hby own_d11_0) rfl rfl k) ?_
  have lt_a_11 := E1.lt
  obtain ⟨_, _, ⟨T12, L12, k12, n12⟩, -, X12, ⟨Lc12, hQ12, l12, y12, z12⟩, st12⟩ := X0.specialBack hx (y := (⟨"java/util/AbstractList", "<init>", "()V"⟩ : MethodName)) rfl hown (mvT hZ (hw _ (List.mem_of_getElem? (i := 30) rfl))) (mvT hZ (hw _ (List.mem_of_getElem? (i := 31) rfl))) (mvT hZ (hw _ (List.mem_of_getElem? (i := 35) rfl))) (by decide) (backOf (W := 0) (own_rm_abl l Z a0 hw [] a h0 n0 O0 E1 F2 F3 F4 G5) hZ (hw _ (List.mem_of_getElem? (i := 35) rfl)) (hw _ (List.mem_of_getElem? (i := 34) rfl)) (by decide) (by decide)) (g := (mkF m 1 #[.val (.ref a)] [(.ref a)])) rfl (by rw [hml]; rfl) (Steps.refl _) (a := a) (argsL := []) (rest := []) (lenOf own_pd_0 rfl) rfl (by show 2 * 0 + _ ≤ _; exact Nat.le_of_eq rfl) (hb hby own_d11_1) (fun _ _ => ⟨rfl, e0, (by decide : 0 + 0 ≤ _), (by decide : 0 + 0 ≤ _)⟩)
  dsimp only [Pt.U, Pt.locs, Pt.cells, Pt.slots] at X12 l12 y12 z12 st12 hQ12
  subst l12 y12 z12
  obtain ⟨rfl, N12q, Kc12, Q12_0, Q12_1, Q12_2, Q12_3⟩ := hQ12
  have O12 := O0.keep Kc12 (allS G5 all0)
  have K12 := K0.trans Kc12 (allS (Or.inl (by simp)) all0)
  have N12 := Fr.app N0 N12q
  refine own_go (B := T12.setTop (mkF m 4 #[.val (.ref a)] [])) (fun t k => st12.trans k) ?_
  refine own_go (B := T12.setTop (mkF m 5 #[.val (.ref a)] [(.ref a)])) (fun t k => XS.aloadN X12.here hx rfl (hb hby own_d11_4) rfl rfl k) ?_
  obtain ⟨T13, X13, e13, st13⟩ := getS2 X12 hx hZ hown (host := "") (Or.inl (hw _ (List.mem_of_getElem? (i := 45) rfl))) Via.refl (rfl : T12.heap = T12.heap) (S_DEF.ext O12.2) (g := (mkF m 5 #[.val (.ref a)] [(.ref a)])) rfl (hb hby own_d11_5)
  refine own_go (B := T13.setTop (mkF m 8 #[.val (.ref a)] [(.ref w_DEF), (.ref a)])) (fun t k => st13 _ k) ?_
  obtain ⟨T14, h14, X14, e14, W14, st14⟩ := putF X13 hx hZ hown (host := "") (Or.inl (hw _ (List.mem_of_getElem? (i := 46) rfl))) Via.refl e13 Q12_2 Q12_0 (Or.inl (hw _ (List.mem_of_getElem? (i := 47) rfl))) (hw _ (List.mem_of_getElem? (i := 25) rfl)) (ty := (.array (.object "java/lang/Object"))) (by decide) rfl rfl (g := (mkF m 8 #[.val (.ref a)] [(.ref w_DEF), (.ref a)])) rfl rfl (hb hby own_d11_8)
  have Fw14 := Q12_2.same W14
  have N14 := Fr.snoc X14 N12 G5
  have O14 := O12.wr W14 G5
  have K14 := K12.wr W14 (Or.inl (by simp))
  refine own_go (B := T14.setTop (mkF m 11 #[.val (.ref a)] [])) (fun t k => st14 _ k) ?_
  obtain ⟨fs, hr, hrun, hended, hW, hsame⟩ := X14.leave (v := none) (fun _ => rfl)
  have f16 := (Q12_0.wr W14)
  have f17 := (Q12_1.other W14 (Or.inr (slot_ne (Or.inl (hw _ (List.mem_of_getElem? (i := 44) rfl))) (Or.inl (hw _ (List.mem_of_getElem? (i := 47) rfl))) (by decide) (t := .int) (t' := (.array (.object "java/lang/Object"))) (by decide) (by decide))))
  have f18 := (Q12_3.other W14 (Or.inr (slot_ne (Or.inl (hw _ (List.mem_of_getElem? (i := 144) rfl))) (Or.inl (hw _ (List.mem_of_getElem? (i := 47) rfl))) (by decide) (t := .int) (t' := (.array (.object "java/lang/Object"))) (by decide) (by decide))))
  refine ⟨_, _, X14.returnOut hx Bd.returns (hb hby own_d11_11) hr, hK _ _ ⟨hrun, hended, _, _, rfl, ?_, ⟨_, rfl⟩, hW, hsame.mono (by decide) (by decide)⟩⟩
  show own_Q_al Z a w_DEF h0 n0 _ T14.heap _
  rw [e14]
  exact ⟨rfl, N14, K14, f16, f17, Fw14, f18⟩
theorem own_d16_0 : decode jdk_92_method_1_code 0 = .ok (.iload_n 0, 1) := by decide +kernel
theorem own_d16_1 : decode jdk_92_method_1_code 1 = .ok (.bipush 6, 2) := by decide +kernel
theorem own_d16_3 : decode jdk_92_method_1_code 3 = .ok (.ishr, 1) := by decide +kernel
theorem own_d16_4 : decode jdk_92_method_1_code 4 = .ok (.ireturn, 1) := by decide +kernel
theorem own_pn_4 : plainName "java/util/BitSet" = true := by first | (simp [plainName, overriddenIn]; done) | decide +kernel
theorem own_ef_widx (m : MethodId) (x0 : Int32)  : entryFrame m #[(.int x0)] 1 = mkF m 0 #[.val (.int x0)] [] := by first | (simp [entryFrame, mkF, argsToLocals, Value.category]; done) | rfl
def own_Q_widx (Z : State) (q1 : Int32) (h0 : Heap) (n0 : Nat) (v : Option Value) (h : Heap) (L : List Loc) : Prop := v = some (.int (q1 >>> ((6 : Int32) &&& 31))) ∧ Fr n0 L ∧ h = h0
set_option maxRecDepth 65536 in
set_option maxHeartbeats 40000000 in
theorem own_rm_widx (l : Launch) (Z : State) (a0 : Array Value) (hw : ∀ d ∈ tables_1, d.before a0 Z = true) (ws : List Jvm.Cond) (q1 : Int32) (h0 : Heap) (n0 : Nat) (O0 : Old Z n0 h0) :
    MetFree l (⟨"java/util/BitSet", "wordIndex", "(I)I"⟩ : MethodName) (head1 (Jvm.Cond.code (⟨"java/util/BitSet", "wordIndex", "(I)I"⟩ : MethodName) jdk_92_method_1_code 1 (some .int) :: ws) ({ frames := 0, cells := 0, slots := 0, locals := 0 } : Room)) (fun ar9 U => ar9 = #[(.int q1)] ∧ Z.Warmed39 U.vm ∧ U.heap = h0) (fun _ _ _ _ _ => True) (fun _ U o U' => ∃ v L, o = .returned v ∧ own_Q_widx Z q1 h0 n0 v U'.heap L ∧ FrameEnd U o U' L ({ frames := 0, cells := 0, slots := 0, locals := 0 } : Room).cells ({ frames := 0, cells := 0, slots := 0, locals := 0 } : Room).slots) := by
  refine MetFree.of_bodySF (plainFor_of_name own_pn_4) hisR ?_
  intro p e s m args below meth c s₁ Bd hml0 hP hK0
  obtain ⟨rfl, hZ, hh⟩ := hP
  have hx := Bd.exec
  have hby := Bd.bytes
  have hml : c.maxLocals = 1 := hml0
  have hown : s.vm.findClass "java/util/BitSet" = some m.cls := findClass_of_methodNamed Bd.named
  have hnm := (name_of_methodNamed Bd.named Bd.method).1
  have X0 : Stand p l e ({ frames := 0, cells := 0, slots := 0, locals := 0 } : Room) s m #[(.int q1)] below meth c s₁ [] 0 0 := Stand.of_body Bd
  have e0 : s₁.heap = h0 := by rw [← hh, Bd.state]; rfl
  have N0 := Fr.nil n0
  refine own_open fun K hK => ?_
  refine own_go (B := s₁.setTop (mkF m 0 #[.val (.int q1)] [])) (fun t k => castTop (own_ef_widx m q1) k) ?_
  refine own_go (B := s₁.setTop (mkF m 1 #[.val (.int q1)] [(.int q1)])) (fun t k => XS.iloadN X0.here hx rfl (hb hby own_d16_0) rfl k) ?_
  refine own_go (B := s₁.setTop (mkF m 3 #[.val (.int q1)] [(.int (6 : Int32)), (.int q1)])) (fun t k => XS.bipush X0.here hx rfl (hb hby own_d16_1) k) ?_
  refine own_go (B := s₁.setTop (mkF m 4 #[.val (.int q1)] [(.int (q1 >>> ((6 : Int32) &&& 31)))])) (fun t k => XS.ishr X0.here hx rfl (hb hby own_d16_3) rfl k) ?_
  obtain ⟨fs, hr, hrun, hended, hW, hsame⟩ := X0.leave (v := some (.int (q1 >>> ((6 : Int32) &&& 31)))) (fun h => by rw [Bd.returns] at h; cases h)
  refine ⟨_, _, own_retI X0 hx Bd.returns (hb hby own_d16_4) hr, hK _ _ ⟨hrun, hended, _, _, rfl, ?_, ⟨_, rfl⟩, hW, hsame.mono (by decide) (by decide)⟩⟩
  show own_Q_widx Z q1 h0 n0 _ s₁.heap _
  rw [e0]
  exact ⟨rfl, N0, rfl⟩
theorem own_d15_0 : decode jdk_92_method_6_code 0 = .ok (.aload_n 0, 1) := by decide +kernel
theorem own_d15_1 : decode jdk_92_method_6_code 1 = .ok (.iload_n 1, 1) := by decide +kernel
theorem own_d15_2 : decode jdk_92_method_6_code 2 = .ok (.iconst 1, 1) := by decide +kernel
theorem own_d15_3 : decode jdk_92_method_6_code 3 = .ok (.isub, 1) := by decide +kernel
theorem own_d15_4 : decode jdk_92_method_6_code 4 = .ok (.invokestatic 52, 3) := by decide +kernel
theorem own_pd_1 : parseMethodDescriptor "(I)I" = some ⟨[.int], some .int⟩ := by decide +kernel
theorem own_d15_7 : decode jdk_92_method_6_code 7 = .ok (.iconst 1, 1) := by decide +kernel
theorem own_d15_8 : decode jdk_92_method_6_code 8 = .ok (.iadd, 1) := by decide +kernel
theorem own_d15_9 : decode jdk_92_method_6_code 9 = .ok (.newarray .long, 2) := by decide +kernel
theorem own_d15_11 : decode jdk_92_method_6_code 11 = .ok (.putfield 11, 3) := by decide +kernel
theorem own_d15_14 : decode jdk_92_method_6_code 14 = .ok (.return_, 1) := by decide +kernel
theorem own_ef_iniw (m : MethodId) (x0 : Addr) (x1 : Int32)  : entryFrame m #[(.ref x0), (.int x1)] 2 = mkF m 0 #[.val (.ref x0), .val (.int x1)] [] := by first | (simp [entryFrame, mkF, argsToLocals, Value.category]; done) | rfl
def own_Q_iniw (Z : State) (a : Addr) (h0 : Heap) (n0 : Nat) (v : Option Value) (h : Heap) (L : List Loc) : Prop := v = none ∧ Fr n0 L ∧ Keep h0 h [a] ∧ Exa Z h a "java/util/BitSet" ∧ Fld Z h a "java/util/BitSet" "wordsInUse" "I" (.int (0 : Int32)) ∧ Fld Z h a "java/util/BitSet" "sizeIsSticky" "Z" (.int (0 : Int32))
set_option maxRecDepth 65536 in
set_option maxHeartbeats 40000000 in
theorem own_rm_iniw (l : Launch) (Z : State) (a0 : Array Value) (hw : ∀ d ∈ tables_1, d.before a0 Z = true) (ws : List Jvm.Cond) (a : Addr) (h0 : Heap) (n0 : Nat) (O0 : Old Z n0 h0) (E0 : Exa Z h0 a "java/util/BitSet") (G1 : n0 ≤ a) (F2 : Fld Z h0 a "java/util/BitSet" "wordsInUse" "I" (.int (0 : Int32))) (F3 : Fld Z h0 a "java/util/BitSet" "sizeIsSticky" "Z" (.int (0 : Int32))) (F4 : Fld Z h0 a "java/util/BitSet" "words" "[J" .null) :
    MetFree l (⟨"java/util/BitSet", "initWords", "(I)V"⟩ : MethodName) (head1 (Jvm.Cond.code (⟨"java/util/BitSet", "initWords", "(I)V"⟩ : MethodName) jdk_92_method_6_code 2 none :: ws) ({ frames := 1, cells := 1, slots := 1, locals := 13 } : Room)) (fun ar9 U => ar9 = #[(.ref a), (.int (64 : Int32))] ∧ Z.Warmed39 U.vm ∧ U.heap = h0) (fun _ _ _ _ _ => True) (fun _ U o U' => ∃ v L, o = .returned v ∧ own_Q_iniw Z a h0 n0 v U'.heap L ∧ FrameEnd U o U' L ({ frames := 1, cells := 1, slots := 1, locals := 13 } : Room).cells ({ frames := 1, cells := 1, slots := 1, locals := 13 } : Room).slots) := by
  refine MetFree.of_bodySF (plainFor_of_name own_pn_4) hisR ?_
  intro p e s m args below meth c s₁ Bd hml0 hP hK0
  obtain ⟨rfl, hZ, hh⟩ := hP
  have hx := Bd.exec
  have hby := Bd.bytes
  have hml : c.maxLocals = 2 := hml0
  have hown : s.vm.findClass "java/util/BitSet" = some m.cls := findClass_of_methodNamed Bd.named
  have hnm := (name_of_methodNamed Bd.named Bd.method).1
  have X0 : Stand p l e ({ frames := 1, cells := 1, slots := 1, locals := 13 } : Room) s m #[(.ref a), (.int (64 : Int32))] below meth c s₁ [] 0 0 := Stand.of_body Bd
  have e0 : s₁.heap = h0 := by rw [← hh, Bd.state]; rfl
  have N0 := Fr.nil n0
  have K0 := Keep.refl h0 [a]
  refine own_open fun K hK => ?_
  refine own_go (B := s₁.setTop (mkF m 0 #[.val (.ref a), .val (.int (64 : Int32))] [])) (fun t k => castTop (own_ef_iniw m a (64 : Int32)) k) ?_
  refine own_go (B := s₁.setTop (mkF m 1 #[.val (.ref a), .val (.int (64 : Int32))] [(.ref a)])) (fun t k => XS.aloadN X0.here hx rfl (hb hby own_d15_0) rfl rfl k) ?_
  refine own_go (B := s₁.setTop (mkF m 2 #[.val (.ref a), .val (.int (64 : Int32))] [(.int (64 : Int32)), (.ref a)])) (fun t k => XS.iloadN X0.here hx rfl (hb hby own_d15_1) rfl k) ?_
  refine own_go (B := s₁.setTop (mkF m 3 #[.val (.ref a), .val (.int (64 : Int32))] [(.int (1 : Int32)), (.int (64 : Int32)), (.ref a)])) (fun t k => XS.iconst X0.here hx rfl (hb hby own_d15_2) k) ?_
  refine own_go (B := s₁.setTop (mkF m 4 #[.val (.ref a), .val (.int (64 : Int32))] [(.int ((64 : Int32) - (1 : Int32))), (.ref a)])) (fun t k => XS.isub X0.here hx rfl (hb hby own_d15_3) rfl k) ?_
  obtain ⟨_, _, ⟨T20, L20, k20, n20⟩, -, X20, ⟨Lc20, hQ20, l20, y20, z20⟩, st20⟩ := Jvm.LawKit.callS X0 hx (y := (⟨"java/util/BitSet", "wordIndex", "(I)I"⟩ : MethodName)) hown (mvT hZ (hw _ (List.mem_of_getElem? (i := 66) rfl))) (mvT hZ (hw _ (List.mem_of_getElem? (i := 67) rfl))) (mvT hZ (hw _ (List.mem_of_getElem? (i := 52) rfl))) (mvT hZ (hw _ (List.mem_of_getElem? (i := 68) rfl))) (by decide) (backOf (W := 1) (own_rm_widx l Z a0 hw [] ((64 : Int32) - (1 : Int32)) h0 n0 O0 ) hZ (hw _ (List.mem_of_getElem? (i := 68) rfl)) (hw _ (List.mem_of_getElem? (i := 52) rfl)) (by decide) (by decide)) (g := (mkF m 4 #[.val (.ref a), .val (.int (64 : Int32))] [(.int ((64 : Int32) - (1 : Int32))), (.ref a)])) rfl (by rw [hml]; rfl) (argsL := [(.int ((64 : Int32) - (1 : Int32)))]) (rest := [(.ref a)]) (lenOf own_pd_1 rfl) rfl (by show 2 * 0 + _ ≤ _; exact Nat.le_of_eq rfl) (hb hby own_d15_4) (fun _ _ => ⟨rfl, e0, (by decide : 0 + 0 ≤ _), (by decide : 0 + 0 ≤ _)⟩)
  dsimp only [Pt.U, Pt.locs, Pt.cells, Pt.slots] at X20 l20 y20 z20 st20 hQ20
  subst l20 y20 z20
  obtain ⟨rfl, N20q, eh20⟩ := hQ20
  have N20 := Fr.app N0 N20q
  refine own_go (B := T20.setTop (mkF m 7 #[.val (.ref a), .val (.int (64 : Int32))] [(.int (((64 : Int32) - (1 : Int32)) >>> ((6 : Int32) &&& 31))), (.ref a)])) (fun t k => st20 _ k) ?_
  refine own_go (B := T20.setTop (mkF m 8 #[.val (.ref a), .val (.int (64 : Int32))] [(.int (1 : Int32)), (.int (((64 : Int32) - (1 : Int32)) >>> ((6 : Int32) &&& 31))), (.ref a)])) (fun t k => XS.iconst X20.here hx rfl (hb hby own_d15_7) k) ?_
  refine own_go (B := T20.setTop (mkF m 9 #[.val (.ref a), .val (.int (64 : Int32))] [(.int ((((64 : Int32) - (1 : Int32)) >>> ((6 : Int32) &&& 31)) + (1 : Int32))), (.ref a)])) (fun t k => XS.iadd X20.here hx rfl (hb hby own_d15_8) rfl k) ?_
  obtain ⟨T21, h21, k21, X21, e21, E21, A21, st21⟩ := newP X20 hx hZ (hw _ (List.mem_of_getElem? (i := 69) rfl)) eh20 (g := (mkF m 9 #[.val (.ref a), .val (.int (64 : Int32))] [(.int ((((64 : Int32) - (1 : Int32)) >>> ((6 : Int32) &&& 31)) + (1 : Int32))), (.ref a)])) rfl (hb hby own_d15_9) rfl (by decide) (cap := 1) (by decide) (by decide) (by decide) (by decide)
  obtain ⟨b21, g21⟩ : ∃ z, z = h0.size := ⟨_, rfl⟩
  rw [← g21] at A21 st21
  have lt_a_21 := E0.lt
  have g_b21 : n0 ≤ b21 := Nat.le_trans (own_n0 O0) (Nat.le_of_eq g21.symm)
  have O21 := O0.ext E21
  have sz_b21 : h0.size ≤ b21 := Nat.le_trans K0.1 (Nat.le_of_eq g21.symm)
  have K21 := K0.ext E21
  have V21 := Arv.new A21 (by decide)
  refine own_go (B := T21.setTop (mkF m 11 #[.val (.ref a), .val (.int (64 : Int32))] [(.ref b21), (.ref a)])) (fun t k => st21 _ k) ?_
  have f22 := (F4.ext E21)
  have f23 := (E0.ext E21)
  obtain ⟨T24, h24, X24, e24, W24, st24⟩ := putF X21 hx hZ hown (host := "") (Or.inl (hw _ (List.mem_of_getElem? (i := 70) rfl))) Via.refl e21 f22 f23 (Or.inl (hw _ (List.mem_of_getElem? (i := 71) rfl))) (hw _ (List.mem_of_getElem? (i := 51) rfl)) (ty := (.array .long)) (by decide) rfl rfl (g := (mkF m 11 #[.val (.ref a), .val (.int (64 : Int32))] [(.ref b21), (.ref a)])) rfl rfl (hb hby own_d15_11)
  have Fw24 := f22.same W24
  have N24 := Fr.snoc X24 N20 G1
  have O24 := O21.wr W24 G1
  have K24 := K21.wr W24 (Or.inl (by simp))
  refine own_go (B := T24.setTop (mkF m 14 #[.val (.ref a), .val (.int (64 : Int32))] [])) (fun t k => st24 _ k) ?_
  obtain ⟨fs, hr, hrun, hended, hW, hsame⟩ := X24.leave (v := none) (fun _ => rfl)
  have f26 := (f23.wr W24)
  have f27 := ((F2.ext E21).other W24 (Or.inr (slot_ne (Or.inl (hw _ (List.mem_of_getElem? (i := 58) rfl))) (Or.inl (hw _ (List.mem_of_getElem? (i := 71) rfl))) (by decide) (t := .int) (t' := (.array .long)) (by decide) (by decide))))
  have f28 := ((F3.ext E21).other W24 (Or.inr (slot_ne (Or.inl (hw _ (List.mem_of_getElem? (i := 60) rfl))) (Or.inl (hw _ (List.mem_of_getElem? (i := 71) rfl))) (by decide) (t := .boolean) (t' := (.array .long)) (by decide) (by decide))))
  refine ⟨_, _, X24.returnOut hx Bd.returns (hb hby own_d15_14) hr, hK _ _ ⟨hrun, hended, _, _, rfl, ?_, ⟨_, rfl⟩, hW, hsame.mono (by decide) (by decide)⟩⟩
  show own_Q_iniw Z a h0 n0 _ T24.heap _
  rw [e24]
  exact ⟨rfl, N24, K24, f26, f27, f28⟩
theorem own_d13_0 : decode jdk_92_method_4_code 0 = .ok (.aload_n 0, 1) := by decide +kernel
theorem own_d13_1 : decode jdk_92_method_4_code 1 = .ok (.invokespecial 21, 3) := by decide +kernel
theorem own_d13_4 : decode jdk_92_method_4_code 4 = .ok (.aload_n 0, 1) := by decide +kernel
theorem own_d13_5 : decode jdk_92_method_4_code 5 = .ok (.iconst 0, 1) := by decide +kernel
theorem own_d13_6 : decode jdk_92_method_4_code 6 = .ok (.putfield 7, 3) := by decide +kernel
theorem own_d13_9 : decode jdk_92_method_4_code 9 = .ok (.aload_n 0, 1) := by decide +kernel
theorem own_d13_10 : decode jdk_92_method_4_code 10 = .ok (.iconst 0, 1) := by decide +kernel
theorem own_d13_11 : decode jdk_92_method_4_code 11 = .ok (.putfield 24, 3) := by decide +kernel
theorem own_d13_14 : decode jdk_92_method_4_code 14 = .ok (.aload_n 0, 1) := by decide +kernel
theorem own_d13_15 : decode jdk_92_method_4_code 15 = .ok (.bipush 64, 2) := by decide +kernel
theorem own_d13_17 : decode jdk_92_method_4_code 17 = .ok (.invokevirtual 27, 3) := by decide +kernel
theorem own_pd_2 : parseMethodDescriptor "(I)V" = some ⟨[.int], none⟩ := by decide +kernel
theorem own_d13_20 : decode jdk_92_method_4_code 20 = .ok (.aload_n 0, 1) := by decide +kernel
theorem own_d13_21 : decode jdk_92_method_4_code 21 = .ok (.iconst 0, 1) := by decide +kernel
theorem own_d13_22 : decode jdk_92_method_4_code 22 = .ok (.putfield 24, 3) := by decide +kernel
theorem own_d13_25 : decode jdk_92_method_4_code 25 = .ok (.return_, 1) := by decide +kernel
theorem own_ef_bs (m : MethodId) (x0 : Addr)  : entryFrame m #[(.ref x0)] 1 = mkF m 0 #[.val (.ref x0)] [] := by first | (simp [entryFrame, mkF, argsToLocals, Value.category]; done) | rfl
def own_Q_bs (Z : State) (a : Addr) (h0 : Heap) (n0 : Nat) (v : Option Value) (h : Heap) (L : List Loc) : Prop := v = none ∧ Fr n0 L ∧ Keep h0 h [a] ∧ Exa Z h a "java/util/BitSet" ∧ Fld Z h a "java/util/BitSet" "wordsInUse" "I" (.int (0 : Int32))
set_option maxRecDepth 65536 in
set_option maxHeartbeats 40000000 in
theorem own_rm_bs (l : Launch) (Z : State) (a0 : Array Value) (hw : ∀ d ∈ tables_1, d.before a0 Z = true) (ws : List Jvm.Cond) (a : Addr) (h0 : Heap) (n0 : Nat) (O0 : Old Z n0 h0) (E0 : Exa Z h0 a "java/util/BitSet") (G1 : n0 ≤ a) (F2 : Fld Z h0 a "java/util/BitSet" "wordsInUse" "I" (.int (0 : Int32))) (F3 : Fld Z h0 a "java/util/BitSet" "sizeIsSticky" "Z" (.int (0 : Int32))) (F4 : Fld Z h0 a "java/util/BitSet" "words" "[J" .null) :
    MetFree l (⟨"java/util/BitSet", "<init>", "()V"⟩ : MethodName) (head1 (Jvm.Cond.code (⟨"java/util/BitSet", "<init>", "()V"⟩ : MethodName) jdk_92_method_4_code 1 none :: ws) ({ frames := 2, cells := 1, slots := 1, locals := 26 } : Room)) (fun ar9 U => ar9 = #[(.ref a)] ∧ Z.Warmed39 U.vm ∧ U.heap = h0) (fun _ _ _ _ _ => True) (fun _ U o U' => ∃ v L, o = .returned v ∧ own_Q_bs Z a h0 n0 v U'.heap L ∧ FrameEnd U o U' L ({ frames := 2, cells := 1, slots := 1, locals := 26 } : Room).cells ({ frames := 2, cells := 1, slots := 1, locals := 26 } : Room).slots) := by
  refine MetFree.of_bodySF (plainFor_of_name own_pn_4) hisR ?_
  intro p e s m args below meth c s₁ Bd hml0 hP hK0
  obtain ⟨rfl, hZ, hh⟩ := hP
  have hx := Bd.exec
  have hby := Bd.bytes
  have hml : c.maxLocals = 1 := hml0
  have hown : s.vm.findClass "java/util/BitSet" = some m.cls := findClass_of_methodNamed Bd.named
  have hnm := (name_of_methodNamed Bd.named Bd.method).1
  have X0 : Stand p l e ({ frames := 2, cells := 1, slots := 1, locals := 26 } : Room) s m #[(.ref a)] below meth c s₁ [] 0 0 := Stand.of_body Bd
  have e0 : s₁.heap = h0 := by rw [← hh, Bd.state]; rfl
  have N0 := Fr.nil n0
  have K0 := Keep.refl h0 [a]
  refine own_open fun K hK => ?_
  refine own_go (B := s₁.setTop (mkF m 0 #[.val (.ref a)] [])) (fun t k => castTop (own_ef_bs m a) k) ?_
  refine own_go (B := s₁.setTop (mkF m 1 #[.val (.ref a)] [(.ref a)])) (fun t k => XS.aloadN X0.here hx rfl (hb hby own_d13_0) rfl rfl k) ?_
  obtain ⟨T29, X29, e29, st29⟩ := initO X0 hx hZ hown (hw _ (List.mem_of_getElem? (i := 56) rfl)) (hw _ (List.mem_of_getElem? (i := 15) rfl)) (hw _ (List.mem_of_getElem? (i := 16) rfl)) e0 (g := (mkF m 1 #[.val (.ref a)] [(.ref a)])) rfl (by rw [hml]; rfl) rfl (hb hby own_d13_1) (by decide) (W := 0) (by show 2 * 0 + _ ≤ _; exact Nat.le_of_eq rfl) (by decide)
  refine own_go (B := T29.setTop (mkF m 4 #[.val (.ref a)] [])) (fun t k => st29 _ k) ?_
  refine own_go (B := T29.setTop (mkF m 5 #[.val (.ref a)] [(.ref a)])) (fun t k => XS.aloadN X29.here hx rfl (hb hby own_d13_4) rfl rfl k) ?_
  refine own_go (B := T29.setTop (mkF m 6 #[.val (.ref a)] [(.int (0 : Int32)), (.ref a)])) (fun t k => XS.iconst X29.here hx rfl (hb hby own_d13_5) k) ?_
  obtain ⟨T30, h30, X30, e30, W30, st30⟩ := putF X29 hx hZ hown (host := "") (Or.inl (hw _ (List.mem_of_getElem? (i := 57) rfl))) Via.refl e29 F2 E0 (Or.inl (hw _ (List.mem_of_getElem? (i := 58) rfl))) (hw _ (List.mem_of_getElem? (i := 51) rfl)) (ty := .int) (by decide) rfl rfl (g := (mkF m 6 #[.val (.ref a)] [(.int (0 : Int32)), (.ref a)])) rfl rfl (hb hby own_d13_6)
  have Fw30 := F2.same W30
  have N30 := Fr.snoc X30 N0 G1
  have O30 := O0.wr W30 G1
  have K30 := K0.wr W30 (Or.inl (by simp))
  refine own_go (B := T30.setTop (mkF m 9 #[.val (.ref a)] [])) (fun t k => st30 _ k) ?_
  refine own_go (B := T30.setTop (mkF m 10 #[.val (.ref a)] [(.ref a)])) (fun t k => XS.aloadN X30.here hx rfl (hb hby own_d13_9) rfl rfl k) ?_
  refine own_go (B := T30.setTop (mkF m 11 #[.val (.ref a)] [(.int (0 : Int32)), (.ref a)])) (fun t k => XS.iconst X30.here hx rfl (hb hby own_d13_10) k) ?_
  have f31 := (F3.other W30 (Or.inr (slot_ne (Or.inl (hw _ (List.mem_of_getElem? (i := 60) rfl))) (Or.inl (hw _ (List.mem_of_getElem? (i := 58) rfl))) (by decide) (t := .boolean) (t' := .int) (by decide) (by decide))))
  have f32 := (E0.wr W30)
  obtain ⟨T33, h33, X33, e33, W33, st33⟩ := putFN X30 hx hZ hown (hw _ (List.mem_of_getElem? (i := 59) rfl)) Via.refl e30 f31 f32 (Or.inl (hw _ (List.mem_of_getElem? (i := 60) rfl))) (hw _ (List.mem_of_getElem? (i := 51) rfl)) (ty := .boolean) (v' := (.int (0 : Int32))) (by decide) rfl (by decide) (g := (mkF m 11 #[.val (.ref a)] [(.int (0 : Int32)), (.ref a)])) rfl rfl (hb hby own_d13_11)
  have Fw33 := f31.same W33
  have N33 := Fr.snoc X33 N30 G1
  have O33 := O30.wr W33 G1
  have K33 := K30.wr W33 (Or.inl (by simp))
  refine own_go (B := T33.setTop (mkF m 14 #[.val (.ref a)] [])) (fun t k => st33 _ k) ?_
  refine own_go (B := T33.setTop (mkF m 15 #[.val (.ref a)] [(.ref a)])) (fun t k => XS.aloadN X33.here hx rfl (hb hby own_d13_14) rfl rfl k) ?_
  refine own_go (B := T33.setTop (mkF m 17 #[.val (.ref a)] [(.int (64 : Int32)), (.ref a)])) (fun t k => XS.bipush X33.here hx rfl (hb hby own_d13_15) k) ?_
  have f34 := (f32.wr W33)
  have f35 := (Fw30.other W33 (Or.inr (slot_ne (Or.inl (hw _ (List.mem_of_getElem? (i := 58) rfl))) (Or.inl (hw _ (List.mem_of_getElem? (i := 60) rfl))) (by decide) (t := .int) (t' := .boolean) (by decide) (by decide))))
  have f36 := ((F4.other W30 (Or.inr (slot_ne (Or.inl (hw _ (List.mem_of_getElem? (i := 71) rfl))) (Or.inl (hw _ (List.mem_of_getElem? (i := 58) rfl))) (by decide) (t := (.array .long)) (t' := .int) (by decide) (by decide)))).other W33 (Or.inr (slot_ne (Or.inl (hw _ (List.mem_of_getElem? (i := 71) rfl))) (Or.inl (hw _ (List.mem_of_getElem? (i := 60) rfl))) (by decide) (t := (.array .long)) (t' := .boolean) (by decide) (by decide))))
  have lt_a_37 := f34.lt
  obtain ⟨cq38, q38, q38'⟩ := f34.cell
  obtain ⟨_, _, ⟨T38, L38, k38, n38⟩, -, X38, ⟨Lc38, hQ38, l38, y38, z38⟩, st38⟩ := X33.privateBack hx (y := (⟨"java/util/BitSet", "initWords", "(I)V"⟩ : MethodName)) hown (mvT hZ (hw _ (List.mem_of_getElem? (i := 61) rfl))) (mvT hZ (hw _ (List.mem_of_getElem? (i := 62) rfl))) (mvT hZ (hw _ (List.mem_of_getElem? (i := 64) rfl))) (Cond.privateMethod_at (mvP hZ (hw _ (List.mem_of_getElem? (i := 63) rfl)) (args := #[]))) (mvT hZ (hw _ (List.mem_of_getElem? (i := 65) rfl))) (by decide) (backOf (W := 0) (own_rm_iniw l Z a0 hw [] a h33 n0 O33 f34 G1 f35 Fw33 f36) hZ (hw _ (List.mem_of_getElem? (i := 65) rfl)) (hw _ (List.mem_of_getElem? (i := 52) rfl)) (by decide) (by decide)) (g := (mkF m 17 #[.val (.ref a)] [(.int (64 : Int32)), (.ref a)])) rfl (by rw [hml]; rfl) (Steps.refl _) (a := a) (by rw [e33]; exact q38) q38' (argsL := [(.int (64 : Int32))]) (rest := []) (lenOf own_pd_2 rfl) rfl (by show 2 * 0 + _ ≤ _; exact Nat.le_of_eq rfl) (hb hby own_d13_17) (fun _ _ => ⟨rfl, e33, (by decide : 0 + 1 ≤ _), (by decide : 0 + 1 ≤ _)⟩)
  dsimp only [Pt.U, Pt.locs, Pt.cells, Pt.slots] at X38 l38 y38 z38 st38 hQ38
  subst l38 y38 z38
  obtain ⟨rfl, N38q, Kc38, Q38_0, Q38_1, Q38_2⟩ := hQ38
  have O38 := O33.keep Kc38 (allS G1 all0)
  have K38 := K33.trans Kc38 (allS (Or.inl (by simp)) all0)
  have N38 := Fr.app N33 N38q
  refine own_go (B := T38.setTop (mkF m 20 #[.val (.ref a)] [])) (fun t k => st38.trans k) ?_
  refine own_go (B := T38.setTop (mkF m 21 #[.val (.ref a)] [(.ref a)])) (fun t k => XS.aloadN X38.here hx rfl (hb hby own_d13_20) rfl rfl k) ?_
  refine own_go (B := T38.setTop (mkF m 22 #[.val (.ref a)] [(.int (0 : Int32)), (.ref a)])) (fun t k => XS.iconst X38.here hx rfl (hb hby own_d13_21) k) ?_
  obtain ⟨T39, h39, X39, e39, W39, st39⟩ := putFN X38 hx hZ hown (hw _ (List.mem_of_getElem? (i := 59) rfl)) Via.refl (rfl : T38.heap = T38.heap) Q38_2 Q38_0 (Or.inl (hw _ (List.mem_of_getElem? (i := 60) rfl))) (hw _ (List.mem_of_getElem? (i := 51) rfl)) (ty := .boolean) (v' := (.int (0 : Int32))) (by decide) rfl (by decide) (g := (mkF m 22 #[.val (.ref a)] [(.int (0 : Int32)), (.ref a)])) rfl rfl (hb hby own_d13_22)
  have Fw39 := Q38_2.same W39
  have N39 := Fr.snoc X39 N38 G1
  have O39 := O38.wr W39 G1
  have K39 := K38.wr W39 (Or.inl (by simp))
  refine own_go (B := T39.setTop (mkF m 25 #[.val (.ref a)] [])) (fun t k => st39 _ k) ?_
  obtain ⟨fs, hr, hrun, hended, hW, hsame⟩ := X39.leave (v := none) (fun _ => rfl)
  have f41 := (Q38_0.wr W39)
  have f42 := (Q38_1.other W39 (Or.inr (slot_ne (Or.inl (hw _ (List.mem_of_getElem? (i := 58) rfl))) (Or.inl (hw _ (List.mem_of_getElem? (i := 60) rfl))) (by decide) (t := .int) (t' := .boolean) (by decide) (by decide))))
  refine ⟨_, _, X39.returnOut hx Bd.returns (hb hby own_d13_25) hr, hK _ _ ⟨hrun, hended, _, _, rfl, ?_, ⟨_, rfl⟩, hW, hsame.mono (by decide) (by decide)⟩⟩
  show own_Q_bs Z a h0 n0 _ T39.heap _
  rw [e39]
  exact ⟨rfl, N39, K39, f41, f42⟩
theorem own_d17_0 : decode jdk_69_method_7_code 0 = .ok (.aload_n 0, 1) := by decide +kernel
theorem own_d17_1 : decode jdk_69_method_7_code 1 = .ok (.invokespecial 43, 3) := by decide +kernel
theorem own_d17_4 : decode jdk_69_method_7_code 4 = .ok (.aload_n 0, 1) := by decide +kernel
theorem own_d17_5 : decode jdk_69_method_7_code 5 = .ok (.ldc 92, 2) := by decide +kernel
theorem own_d17_7 : decode jdk_69_method_7_code 7 = .ok (.putfield 81, 3) := by decide +kernel
theorem own_d17_10 : decode jdk_69_method_7_code 10 = .ok (.return_, 1) := by decide +kernel
theorem own_pn_5 : plainName "java/util/HashMap" = true := by first | (simp [plainName, overriddenIn]; done) | decide +kernel
theorem own_ef_hm (m : MethodId) (x0 : Addr)  : entryFrame m #[(.ref x0)] 1 = mkF m 0 #[.val (.ref x0)] [] := by first | (simp [entryFrame, mkF, argsToLocals, Value.category]; done) | rfl
def own_Q_hm (Z : State) (a : Addr) (h0 : Heap) (n0 : Nat) (v : Option Value) (h : Heap) (L : List Loc) : Prop := v = none ∧ Fr n0 L ∧ Keep h0 h [a] ∧ Exa Z h a "java/util/LinkedHashMap" ∧ Fld Z h a "java/util/HashMap" "modCount" "I" (.int (0 : Int32)) ∧ Fld Z h a "java/util/HashMap" "table" "[Ljava/util/HashMap$Node;" .null ∧ Fld Z h a "java/util/LinkedHashMap" "head" "Ljava/util/LinkedHashMap$Entry;" .null ∧ Fld Z h a "java/util/LinkedHashMap" "tail" "Ljava/util/LinkedHashMap$Entry;" .null ∧ Fld Z h a "java/util/LinkedHashMap" "putMode" "I" (.int (0 : Int32)) ∧ Fld Z h a "java/util/LinkedHashMap" "accessOrder" "Z" (.int (0 : Int32))
set_option maxRecDepth 65536 in
set_option maxHeartbeats 40000000 in
theorem own_rm_hm (l : Launch) (Z : State) (a0 : Array Value) (hw : ∀ d ∈ tables_1, d.before a0 Z = true) (ws : List Jvm.Cond) (a : Addr) (h0 : Heap) (n0 : Nat) (O0 : Old Z n0 h0) (E0 : Exa Z h0 a "java/util/LinkedHashMap") (F1 : Fld Z h0 a "java/util/HashMap" "modCount" "I" (.int (0 : Int32))) (F2 : Fld Z h0 a "java/util/HashMap" "table" "[Ljava/util/HashMap$Node;" .null) (F3 : Fld Z h0 a "java/util/LinkedHashMap" "head" "Ljava/util/LinkedHashMap$Entry;" .null) (F4 : Fld Z h0 a "java/util/LinkedHashMap" "tail" "Ljava/util/LinkedHashMap$Entry;" .null) (F5 : Fld Z h0 a "java/util/LinkedHashMap" "putMode" "I" (.int (0 : Int32))) (F6 : Fld Z h0 a "java/util/LinkedHashMap" "accessOrder" "Z" (.int (0 : Int32))) (F7 : Fld Z h0 a "java/util/HashMap" "loadFactor" "F" (.float (0 : UInt32))) (G8 : n0 ≤ a) :
    MetFree l (⟨"java/util/HashMap", "<init>", "()V"⟩ : MethodName) (head1 (Jvm.Cond.code (⟨"java/util/HashMap", "<init>", "()V"⟩ : MethodName) jdk_69_method_7_code 1 none :: ws) ({ frames := 2, cells := 0, slots := 0, locals := 24 } : Room)) (fun ar9 U => ar9 = #[(.ref a)] ∧ Z.Warmed39 U.vm ∧ U.heap = h0) (fun _ _ _ _ _ => True) (fun _ U o U' => ∃ v L, o = .returned v ∧ own_Q_hm Z a h0 n0 v U'.heap L ∧ FrameEnd U o U' L ({ frames := 2, cells := 0, slots := 0, locals := 24 } : Room).cells ({ frames := 2, cells := 0, slots := 0, locals := 24 } : Room).slots) := by
  refine MetFree.of_bodySF (plainFor_of_name own_pn_5) hisR ?_
  intro p e s m args below meth c s₁ Bd hml0 hP hK0
  obtain ⟨rfl, hZ, hh⟩ := hP
  have hx := Bd.exec
  have hby := Bd.bytes
  have hml : c.maxLocals = 1 := hml0
  have hown : s.vm.findClass "java/util/HashMap" = some m.cls := findClass_of_methodNamed Bd.named
  have hnm := (name_of_methodNamed Bd.named Bd.method).1
  have X0 : Stand p l e ({ frames := 2, cells := 0, slots := 0, locals := 24 } : Room) s m #[(.ref a)] below meth c s₁ [] 0 0 := Stand.of_body Bd
  have e0 : s₁.heap = h0 := by rw [← hh, Bd.state]; rfl
  have N0 := Fr.nil n0
  have K0 := Keep.refl h0 [a]
  refine own_open fun K hK => ?_
  refine own_go (B := s₁.setTop (mkF m 0 #[.val (.ref a)] [])) (fun t k => castTop (own_ef_hm m a) k) ?_
  refine own_go (B := s₁.setTop (mkF m 1 #[.val (.ref a)] [(.ref a)])) (fun t k => XS.aloadN X0.here hx rfl (hb hby own_d17_0) rfl rfl k) ?_
  obtain ⟨_, _, ⟨T43, L43, k43, n43⟩, -, X43, ⟨Lc43, hQ43, l43, y43, z43⟩, st43⟩ := X0.specialBack hx (y := (⟨"java/util/AbstractMap", "<init>", "()V"⟩ : MethodName)) rfl hown (mvT hZ (hw _ (List.mem_of_getElem? (i := 88) rfl))) (mvT hZ (hw _ (List.mem_of_getElem? (i := 89) rfl))) (mvT hZ (hw _ (List.mem_of_getElem? (i := 93) rfl))) (by decide) (backOf (W := 0) (own_rm_abm l Z a0 hw [] a h0 n0 O0 ) hZ (hw _ (List.mem_of_getElem? (i := 93) rfl)) (hw _ (List.mem_of_getElem? (i := 92) rfl)) (by decide) (by decide)) (g := (mkF m 1 #[.val (.ref a)] [(.ref a)])) rfl (by rw [hml]; rfl) (Steps.refl _) (a := a) (argsL := []) (rest := []) (lenOf own_pd_0 rfl) rfl (by show 2 * 0 + _ ≤ _; exact Nat.le_of_eq rfl) (hb hby own_d17_1) (fun _ _ => ⟨rfl, e0, (by decide : 0 + 0 ≤ _), (by decide : 0 + 0 ≤ _)⟩)
  dsimp only [Pt.U, Pt.locs, Pt.cells, Pt.slots] at X43 l43 y43 z43 st43 hQ43
  subst l43 y43 z43
  obtain ⟨rfl, N43q, eh43⟩ := hQ43
  have N43 := Fr.app N0 N43q
  refine own_go (B := T43.setTop (mkF m 4 #[.val (.ref a)] [])) (fun t k => st43.trans k) ?_
  refine own_go (B := T43.setTop (mkF m 5 #[.val (.ref a)] [(.ref a)])) (fun t k => XS.aloadN X43.here hx rfl (hb hby own_d17_4) rfl rfl k) ?_
  refine own_go (B := T43.setTop (mkF m 7 #[.val (.ref a)] [(.float (1061158912 : UInt32)), (.ref a)])) (fun t k => X43.ldcFloatC hx hown (mvT hZ (hw _ (List.mem_of_getElem? (i := 95) rfl))) (g := (mkF m 5 #[.val (.ref a)] [(.ref a)])) rfl (hb hby own_d17_5) _ k) ?_
  obtain ⟨T44, h44, X44, e44, W44, st44⟩ := putF X43 hx hZ hown (host := "") (Or.inl (hw _ (List.mem_of_getElem? (i := 96) rfl))) Via.refl eh43 F7 E0 (Or.inr ⟨(hw _ (List.mem_of_getElem? (i := 97) rfl)), rfl, hnm⟩) (hw _ (List.mem_of_getElem? (i := 77) rfl)) (ty := .float) (by decide) rfl rfl (g := (mkF m 7 #[.val (.ref a)] [(.float (1061158912 : UInt32)), (.ref a)])) rfl rfl (hb hby own_d17_7)
  have Fw44 := F7.same W44
  have N44 := Fr.snoc X44 N43 G8
  have O44 := O0.wr W44 G8
  have K44 := K0.wr W44 (Or.inl (by simp))
  refine own_go (B := T44.setTop (mkF m 10 #[.val (.ref a)] [])) (fun t k => st44 _ k) ?_
  obtain ⟨fs, hr, hrun, hended, hW, hsame⟩ := X44.leave (v := none) (fun _ => rfl)
  have f46 := (E0.wr W44)
  have f47 := (F1.other W44 (Or.inr (slot_ne (Or.inl (hw _ (List.mem_of_getElem? (i := 165) rfl))) (Or.inr (hw _ (List.mem_of_getElem? (i := 97) rfl))) (by decide) (t := .int) (t' := .float) (by decide) (by decide))))
  have f48 := (F2.other W44 (Or.inr (slot_ne (Or.inl (hw _ (List.mem_of_getElem? (i := 167) rfl))) (Or.inr (hw _ (List.mem_of_getElem? (i := 97) rfl))) (by decide) (t := (.array (.object "java/util/HashMap$Node"))) (t' := .float) (by decide) (by decide))))
  have f49 := (F3.other W44 (Or.inr (slot_ne (Or.inl (hw _ (List.mem_of_getElem? (i := 171) rfl))) (Or.inr (hw _ (List.mem_of_getElem? (i := 97) rfl))) (by decide) (t := (.object "java/util/LinkedHashMap$Entry")) (t' := .float) (by decide) (by decide))))
  have f50 := (F4.other W44 (Or.inr (slot_ne (Or.inl (hw _ (List.mem_of_getElem? (i := 169) rfl))) (Or.inr (hw _ (List.mem_of_getElem? (i := 97) rfl))) (by decide) (t := (.object "java/util/LinkedHashMap$Entry")) (t' := .float) (by decide) (by decide))))
  have f51 := (F5.other W44 (Or.inr (slot_ne (Or.inl (hw _ (List.mem_of_getElem? (i := 99) rfl))) (Or.inr (hw _ (List.mem_of_getElem? (i := 97) rfl))) (by decide) (t := .int) (t' := .float) (by decide) (by decide))))
  have f52 := (F6.other W44 (Or.inr (slot_ne (Or.inr (hw _ (List.mem_of_getElem? (i := 101) rfl))) (Or.inr (hw _ (List.mem_of_getElem? (i := 97) rfl))) (by decide) (t := .boolean) (t' := .float) (by decide) (by decide))))
  refine ⟨_, _, X44.returnOut hx Bd.returns (hb hby own_d17_10) hr, hK _ _ ⟨hrun, hended, _, _, rfl, ?_, ⟨_, rfl⟩, hW, hsame.mono (by decide) (by decide)⟩⟩
  show own_Q_hm Z a h0 n0 _ T44.heap _
  rw [e44]
  exact ⟨rfl, N44, K44, f46, f47, f48, f49, f50, f51, f52⟩
theorem own_d19_0 : decode jdk_94_method_16_code 0 = .ok (.aload_n 0, 1) := by decide +kernel
theorem own_d19_1 : decode jdk_94_method_16_code 1 = .ok (.invokespecial 87, 3) := by decide +kernel
theorem own_d19_4 : decode jdk_94_method_16_code 4 = .ok (.aload_n 0, 1) := by decide +kernel
theorem own_d19_5 : decode jdk_94_method_16_code 5 = .ok (.iconst 0, 1) := by decide +kernel
theorem own_d19_6 : decode jdk_94_method_16_code 6 = .ok (.putfield 1, 3) := by decide +kernel
theorem own_d19_9 : decode jdk_94_method_16_code 9 = .ok (.aload_n 0, 1) := by decide +kernel
theorem own_d19_10 : decode jdk_94_method_16_code 10 = .ok (.iconst 0, 1) := by decide +kernel
theorem own_d19_11 : decode jdk_94_method_16_code 11 = .ok (.putfield 64, 3) := by decide +kernel
theorem own_d19_14 : decode jdk_94_method_16_code 14 = .ok (.return_, 1) := by decide +kernel
theorem own_pn_6 : plainName "java/util/LinkedHashMap" = true := by first | (simp [plainName, overriddenIn]; done) | decide +kernel
theorem own_ef_lhm (m : MethodId) (x0 : Addr)  : entryFrame m #[(.ref x0)] 1 = mkF m 0 #[.val (.ref x0)] [] := by first | (simp [entryFrame, mkF, argsToLocals, Value.category]; done) | rfl
def own_Q_lhm (Z : State) (a : Addr) (h0 : Heap) (n0 : Nat) (v : Option Value) (h : Heap) (L : List Loc) : Prop := v = none ∧ Fr n0 L ∧ Keep h0 h [a] ∧ Exa Z h a "java/util/LinkedHashMap" ∧ Fld Z h a "java/util/HashMap" "modCount" "I" (.int (0 : Int32)) ∧ Fld Z h a "java/util/HashMap" "table" "[Ljava/util/HashMap$Node;" .null ∧ Fld Z h a "java/util/LinkedHashMap" "head" "Ljava/util/LinkedHashMap$Entry;" .null ∧ Fld Z h a "java/util/LinkedHashMap" "tail" "Ljava/util/LinkedHashMap$Entry;" .null
set_option maxRecDepth 65536 in
set_option maxHeartbeats 40000000 in
theorem own_rm_lhm (l : Launch) (Z : State) (a0 : Array Value) (hw : ∀ d ∈ tables_1, d.before a0 Z = true) (ws : List Jvm.Cond) (a : Addr) (h0 : Heap) (n0 : Nat) (O0 : Old Z n0 h0) (E0 : Exa Z h0 a "java/util/LinkedHashMap") (F1 : Fld Z h0 a "java/util/HashMap" "modCount" "I" (.int (0 : Int32))) (F2 : Fld Z h0 a "java/util/HashMap" "table" "[Ljava/util/HashMap$Node;" .null) (F3 : Fld Z h0 a "java/util/LinkedHashMap" "head" "Ljava/util/LinkedHashMap$Entry;" .null) (F4 : Fld Z h0 a "java/util/LinkedHashMap" "tail" "Ljava/util/LinkedHashMap$Entry;" .null) (F5 : Fld Z h0 a "java/util/LinkedHashMap" "putMode" "I" (.int (0 : Int32))) (F6 : Fld Z h0 a "java/util/LinkedHashMap" "accessOrder" "Z" (.int (0 : Int32))) (F7 : Fld Z h0 a "java/util/HashMap" "loadFactor" "F" (.float (0 : UInt32))) (G8 : n0 ≤ a) :
    MetFree l (⟨"java/util/LinkedHashMap", "<init>", "()V"⟩ : MethodName) (head1 (Jvm.Cond.code (⟨"java/util/LinkedHashMap", "<init>", "()V"⟩ : MethodName) jdk_94_method_16_code 1 none :: ws) ({ frames := 3, cells := 0, slots := 0, locals := 36 } : Room)) (fun ar9 U => ar9 = #[(.ref a)] ∧ Z.Warmed39 U.vm ∧ U.heap = h0) (fun _ _ _ _ _ => True) (fun _ U o U' => ∃ v L, o = .returned v ∧ own_Q_lhm Z a h0 n0 v U'.heap L ∧ FrameEnd U o U' L ({ frames := 3, cells := 0, slots := 0, locals := 36 } : Room).cells ({ frames := 3, cells := 0, slots := 0, locals := 36 } : Room).slots) := by
  refine MetFree.of_bodySF (plainFor_of_name own_pn_6) hisR ?_
  intro p e s m args below meth c s₁ Bd hml0 hP hK0
  obtain ⟨rfl, hZ, hh⟩ := hP
  have hx := Bd.exec
  have hby := Bd.bytes
  have hml : c.maxLocals = 1 := hml0
  have hown : s.vm.findClass "java/util/LinkedHashMap" = some m.cls := findClass_of_methodNamed Bd.named
  have hnm := (name_of_methodNamed Bd.named Bd.method).1
  have X0 : Stand p l e ({ frames := 3, cells := 0, slots := 0, locals := 36 } : Room) s m #[(.ref a)] below meth c s₁ [] 0 0 := Stand.of_body Bd
  have e0 : s₁.heap = h0 := by rw [← hh, Bd.state]; rfl
  have N0 := Fr.nil n0
  have K0 := Keep.refl h0 [a]
  refine own_open fun K hK => ?_
  refine own_go (B := s₁.setTop (mkF m 0 #[.val (.ref a)] [])) (fun t k => castTop (own_ef_lhm m a) k) ?_
  refine own_go (B := s₁.setTop (mkF m 1 #[.val (.ref a)] [(.ref a)])) (fun t k => XS.aloadN X0.here hx rfl (hb hby own_d19_0) rfl rfl k) ?_
  have lt_a_53 := E0.lt
  obtain ⟨_, _, ⟨T54, L54, k54, n54⟩, -, X54, ⟨Lc54, hQ54, l54, y54, z54⟩, st54⟩ := X0.specialBack hx (y := (⟨"java/util/HashMap", "<init>", "()V"⟩ : MethodName)) rfl hown (mvT hZ (hw _ (List.mem_of_getElem? (i := 82) rfl))) (mvT hZ (hw _ (List.mem_of_getElem? (i := 83) rfl))) (mvT hZ (hw _ (List.mem_of_getElem? (i := 87) rfl))) (by decide) (backOf (W := 0) (own_rm_hm l Z a0 hw [] a h0 n0 O0 E0 F1 F2 F3 F4 F5 F6 F7 G8) hZ (hw _ (List.mem_of_getElem? (i := 87) rfl)) (hw _ (List.mem_of_getElem? (i := 86) rfl)) (by decide) (by decide)) (g := (mkF m 1 #[.val (.ref a)] [(.ref a)])) rfl (by rw [hml]; rfl) (Steps.refl _) (a := a) (argsL := []) (rest := []) (lenOf own_pd_0 rfl) rfl (by show 2 * 0 + _ ≤ _; exact Nat.le_of_eq rfl) (hb hby own_d19_1) (fun _ _ => ⟨rfl, e0, (by decide : 0 + 0 ≤ _), (by decide : 0 + 0 ≤ _)⟩)
  dsimp only [Pt.U, Pt.locs, Pt.cells, Pt.slots] at X54 l54 y54 z54 st54 hQ54
  subst l54 y54 z54
  obtain ⟨rfl, N54q, Kc54, Q54_0, Q54_1, Q54_2, Q54_3, Q54_4, Q54_5, Q54_6⟩ := hQ54
  have O54 := O0.keep Kc54 (allS G8 all0)
  have K54 := K0.trans Kc54 (allS (Or.inl (by simp)) all0)
  have N54 := Fr.app N0 N54q
  refine own_go (B := T54.setTop (mkF m 4 #[.val (.ref a)] [])) (fun t k => st54.trans k) ?_
  refine own_go (B := T54.setTop (mkF m 5 #[.val (.ref a)] [(.ref a)])) (fun t k => XS.aloadN X54.here hx rfl (hb hby own_d19_4) rfl rfl k) ?_
  refine own_go (B := T54.setTop (mkF m 6 #[.val (.ref a)] [(.int (0 : Int32)), (.ref a)])) (fun t k => XS.iconst X54.here hx rfl (hb hby own_d19_5) k) ?_
  obtain ⟨T55, h55, X55, e55, W55, st55⟩ := putF X54 hx hZ hown (host := "") (Or.inl (hw _ (List.mem_of_getElem? (i := 98) rfl))) Via.refl (rfl : T54.heap = T54.heap) Q54_5 Q54_0 (Or.inl (hw _ (List.mem_of_getElem? (i := 99) rfl))) (hw _ (List.mem_of_getElem? (i := 77) rfl)) (ty := .int) (by decide) rfl rfl (g := (mkF m 6 #[.val (.ref a)] [(.int (0 : Int32)), (.ref a)])) rfl rfl (hb hby own_d19_6)
  have Fw55 := Q54_5.same W55
  have N55 := Fr.snoc X55 N54 G8
  have O55 := O54.wr W55 G8
  have K55 := K54.wr W55 (Or.inl (by simp))
  refine own_go (B := T55.setTop (mkF m 9 #[.val (.ref a)] [])) (fun t k => st55 _ k) ?_
  refine own_go (B := T55.setTop (mkF m 10 #[.val (.ref a)] [(.ref a)])) (fun t k => XS.aloadN X55.here hx rfl (hb hby own_d19_9) rfl rfl k) ?_
  refine own_go (B := T55.setTop (mkF m 11 #[.val (.ref a)] [(.int (0 : Int32)), (.ref a)])) (fun t k => XS.iconst X55.here hx rfl (hb hby own_d19_10) k) ?_
  have f56 := (Q54_6.other W55 (Or.inr (slot_ne (Or.inr (hw _ (List.mem_of_getElem? (i := 101) rfl))) (Or.inl (hw _ (List.mem_of_getElem? (i := 99) rfl))) (by decide) (t := .boolean) (t' := .int) (by decide) (by decide))))
  have f57 := (Q54_0.wr W55)
  obtain ⟨T58, h58, X58, e58, W58, st58⟩ := putFN X55 hx hZ hown (hw _ (List.mem_of_getElem? (i := 100) rfl)) Via.refl e55 f56 f57 (Or.inr ⟨(hw _ (List.mem_of_getElem? (i := 101) rfl)), rfl, hnm⟩) (hw _ (List.mem_of_getElem? (i := 77) rfl)) (ty := .boolean) (v' := (.int (0 : Int32))) (by decide) rfl (by decide) (g := (mkF m 11 #[.val (.ref a)] [(.int (0 : Int32)), (.ref a)])) rfl rfl (hb hby own_d19_11)
  have Fw58 := f56.same W58
  have N58 := Fr.snoc X58 N55 G8
  have O58 := O55.wr W58 G8
  have K58 := K55.wr W58 (Or.inl (by simp))
  refine own_go (B := T58.setTop (mkF m 14 #[.val (.ref a)] [])) (fun t k => st58 _ k) ?_
  obtain ⟨fs, hr, hrun, hended, hW, hsame⟩ := X58.leave (v := none) (fun _ => rfl)
  have f60 := (f57.wr W58)
  have f61 := ((Q54_1.other W55 (Or.inr (slot_ne (Or.inl (hw _ (List.mem_of_getElem? (i := 165) rfl))) (Or.inl (hw _ (List.mem_of_getElem? (i := 99) rfl))) (by decide) (t := .int) (t' := .int) (by decide) (by decide)))).other W58 (Or.inr (slot_ne (Or.inl (hw _ (List.mem_of_getElem? (i := 165) rfl))) (Or.inr (hw _ (List.mem_of_getElem? (i := 101) rfl))) (by decide) (t := .int) (t' := .boolean) (by decide) (by decide))))
  have f62 := ((Q54_2.other W55 (Or.inr (slot_ne (Or.inl (hw _ (List.mem_of_getElem? (i := 167) rfl))) (Or.inl (hw _ (List.mem_of_getElem? (i := 99) rfl))) (by decide) (t := (.array (.object "java/util/HashMap$Node"))) (t' := .int) (by decide) (by decide)))).other W58 (Or.inr (slot_ne (Or.inl (hw _ (List.mem_of_getElem? (i := 167) rfl))) (Or.inr (hw _ (List.mem_of_getElem? (i := 101) rfl))) (by decide) (t := (.array (.object "java/util/HashMap$Node"))) (t' := .boolean) (by decide) (by decide))))
  have f63 := ((Q54_3.other W55 (Or.inr (slot_ne (Or.inl (hw _ (List.mem_of_getElem? (i := 171) rfl))) (Or.inl (hw _ (List.mem_of_getElem? (i := 99) rfl))) (by decide) (t := (.object "java/util/LinkedHashMap$Entry")) (t' := .int) (by decide) (by decide)))).other W58 (Or.inr (slot_ne (Or.inl (hw _ (List.mem_of_getElem? (i := 171) rfl))) (Or.inr (hw _ (List.mem_of_getElem? (i := 101) rfl))) (by decide) (t := (.object "java/util/LinkedHashMap$Entry")) (t' := .boolean) (by decide) (by decide))))
  have f64 := ((Q54_4.other W55 (Or.inr (slot_ne (Or.inl (hw _ (List.mem_of_getElem? (i := 169) rfl))) (Or.inl (hw _ (List.mem_of_getElem? (i := 99) rfl))) (by decide) (t := (.object "java/util/LinkedHashMap$Entry")) (t' := .int) (by decide) (by decide)))).other W58 (Or.inr (slot_ne (Or.inl (hw _ (List.mem_of_getElem? (i := 169) rfl))) (Or.inr (hw _ (List.mem_of_getElem? (i := 101) rfl))) (by decide) (t := (.object "java/util/LinkedHashMap$Entry")) (t' := .boolean) (by decide) (by decide))))
  refine ⟨_, _, X58.returnOut hx Bd.returns (hb hby own_d19_14) hr, hK _ _ ⟨hrun, hended, _, _, rfl, ?_, ⟨_, rfl⟩, hW, hsame.mono (by decide) (by decide)⟩⟩
  show own_Q_lhm Z a h0 n0 _ T58.heap _
  rw [e58]
  exact ⟨rfl, N58, K58, f60, f61, f62, f63, f64⟩
theorem own_d5_0 : decode prog_57_method_1_code 0 = .ok (.aload_n 0, 1) := by decide +kernel
theorem own_d5_1 : decode prog_57_method_1_code 1 = .ok (.invokespecial 1, 3) := by decide +kernel
theorem own_d5_4 : decode prog_57_method_1_code 4 = .ok (.aload_n 0, 1) := by decide +kernel
theorem own_d5_5 : decode prog_57_method_1_code 5 = .ok (.new 7, 3) := by decide +kernel
theorem own_d5_8 : decode prog_57_method_1_code 8 = .ok (.dup, 1) := by decide +kernel
theorem own_d5_9 : decode prog_57_method_1_code 9 = .ok (.invokespecial 9, 3) := by decide +kernel
theorem own_d5_12 : decode prog_57_method_1_code 12 = .ok (.putfield 10, 3) := by decide +kernel
theorem own_d5_15 : decode prog_57_method_1_code 15 = .ok (.aload_n 0, 1) := by decide +kernel
theorem own_d5_16 : decode prog_57_method_1_code 16 = .ok (.new 16, 3) := by decide +kernel
theorem own_d5_19 : decode prog_57_method_1_code 19 = .ok (.dup, 1) := by decide +kernel
theorem own_d5_20 : decode prog_57_method_1_code 20 = .ok (.invokespecial 18, 3) := by decide +kernel
theorem own_d5_23 : decode prog_57_method_1_code 23 = .ok (.putfield 19, 3) := by decide +kernel
theorem own_d5_26 : decode prog_57_method_1_code 26 = .ok (.return_, 1) := by decide +kernel
theorem own_pn_7 : plainName "com/example/interleave/interleave/engine/UndoLog" = true := by first | (simp [plainName, overriddenIn]; done) | decide +kernel
theorem own_ef_ul (m : MethodId) (x0 : Addr)  : entryFrame m #[(.ref x0)] 1 = mkF m 0 #[.val (.ref x0)] [] := by first | (simp [entryFrame, mkF, argsToLocals, Value.category]; done) | rfl
def own_Q_ul (Z : State) (a w_DEF : Addr) (h0 : Heap) (n0 : Nat) (v : Option Value) (h : Heap) (L : List Loc) : Prop := ∃ en ch : Addr, v = none ∧ Fr n0 L ∧ Keep h0 h [a] ∧ h0.size ≤ en ∧ h0.size ≤ ch ∧ Exa Z h a "com/example/interleave/interleave/engine/UndoLog" ∧ Fld Z h a "com/example/interleave/interleave/engine/UndoLog" "entries" "Ljava/util/List;" (.ref en) ∧ Fld Z h a "com/example/interleave/interleave/engine/UndoLog" "changes" "Ljava/util/BitSet;" (.ref ch) ∧ Exa Z h en "java/util/ArrayList" ∧ Fld Z h en "java/util/AbstractList" "modCount" "I" (.int (0 : Int32)) ∧ Fld Z h en "java/util/ArrayList" "elementData" "[Ljava/lang/Object;" (.ref w_DEF) ∧ Fld Z h en "java/util/ArrayList" "size" "I" (.int (0 : Int32)) ∧ Exa Z h ch "java/util/BitSet" ∧ Fld Z h ch "java/util/BitSet" "wordsInUse" "I" (.int (0 : Int32))
set_option maxRecDepth 65536 in
set_option maxHeartbeats 40000000 in
theorem own_rm_ul (l : Launch) (Z : State) (a0 : Array Value) (hw : ∀ d ∈ tables_1, d.before a0 Z = true) (ws : List Jvm.Cond) (a w_DEF : Addr) (h0 : Heap) (n0 : Nat) (O0 : Old Z n0 h0) (S_DEF : Sta Z Z.heap "java/util/ArrayList" "DEFAULTCAPACITY_EMPTY_ELEMENTDATA" "[Ljava/lang/Object;" (.ref w_DEF)) (E1 : Exa Z h0 a "com/example/interleave/interleave/engine/UndoLog") (G2 : n0 ≤ a) (F3 : Fld Z h0 a "com/example/interleave/interleave/engine/UndoLog" "entries" "Ljava/util/List;" .null) (F4 : Fld Z h0 a "com/example/interleave/interleave/engine/UndoLog" "changes" "Ljava/util/BitSet;" .null) :
    MetFree l (⟨"com/example/interleave/interleave/engine/UndoLog", "<init>", "()V"⟩ : MethodName) (head1 (Jvm.Cond.code (⟨"com/example/interleave/interleave/engine/UndoLog", "<init>", "()V"⟩ : MethodName) prog_57_method_1_code 1 none :: ws) ({ frames := 4, cells := 3, slots := 7, locals := 50 } : Room)) (fun ar9 U => ar9 = #[(.ref a)] ∧ Z.Warmed39 U.vm ∧ U.heap = h0) (fun _ _ _ _ _ => True) (fun _ U o U' => ∃ v L, o = .returned v ∧ own_Q_ul Z a w_DEF h0 n0 v U'.heap L ∧ FrameEnd U o U' L ({ frames := 4, cells := 3, slots := 7, locals := 50 } : Room).cells ({ frames := 4, cells := 3, slots := 7, locals := 50 } : Room).slots) := by
  refine MetFree.of_bodySF (plainFor_of_name own_pn_7) hisR ?_
  intro p e s m args below meth c s₁ Bd hml0 hP hK0
  obtain ⟨rfl, hZ, hh⟩ := hP
  have hx := Bd.exec
  have hby := Bd.bytes
  have hml : c.maxLocals = 1 := hml0
  have hown : s.vm.findClass "com/example/interleave/interleave/engine/UndoLog" = some m.cls := findClass_of_methodNamed Bd.named
  have hnm := (name_of_methodNamed Bd.named Bd.method).1
  have X0 : Stand p l e ({ frames := 4, cells := 3, slots := 7, locals := 50 } : Room) s m #[(.ref a)] below meth c s₁ [] 0 0 := Stand.of_body Bd
  have e0 : s₁.heap = h0 := by rw [← hh, Bd.state]; rfl
  have N0 := Fr.nil n0
  have K0 := Keep.refl h0 [a]
  refine own_open fun K hK => ?_
  refine own_go (B := s₁.setTop (mkF m 0 #[.val (.ref a)] [])) (fun t k => castTop (own_ef_ul m a) k) ?_
  refine own_go (B := s₁.setTop (mkF m 1 #[.val (.ref a)] [(.ref a)])) (fun t k => XS.aloadN X0.here hx rfl (hb hby own_d5_0) rfl rfl k) ?_
  obtain ⟨T65, X65, e65, st65⟩ := initO X0 hx hZ hown (hw _ (List.mem_of_getElem? (i := 23) rfl)) (hw _ (List.mem_of_getElem? (i := 15) rfl)) (hw _ (List.mem_of_getElem? (i := 16) rfl)) e0 (g := (mkF m 1 #[.val (.ref a)] [(.ref a)])) rfl (by rw [hml]; rfl) rfl (hb hby own_d5_1) (by decide) (W := 0) (by show 2 * 0 + _ ≤ _; exact Nat.le_of_eq rfl) (by decide)
  refine own_go (B := T65.setTop (mkF m 4 #[.val (.ref a)] [])) (fun t k => st65 _ k) ?_
  refine own_go (B := T65.setTop (mkF m 5 #[.val (.ref a)] [(.ref a)])) (fun t k => XS.aloadN X65.here hx rfl (hb hby own_d5_4) rfl rfl k) ?_
  obtain ⟨T66, h66, X66, e66, E66, A66, D66, -, st66⟩ := newO X65 hx hZ hown (hw _ (List.mem_of_getElem? (i := 24) rfl)) (hw _ (List.mem_of_getElem? (i := 25) rfl)) (hw _ (List.mem_of_getElem? (i := 26) rfl)) e65 (g := (mkF m 5 #[.val (.ref a)] [(.ref a)])) rfl (hb hby own_d5_5) (by decide) (by decide)
  obtain ⟨b66, g66⟩ : ∃ z, z = h0.size := ⟨_, rfl⟩
  rw [← g66] at A66 D66 st66
  have lt_a_66 := E1.lt
  have g_b66 : n0 ≤ b66 := Nat.le_trans (own_n0 O0) (Nat.le_of_eq g66.symm)
  have O66 := O0.ext E66
  have sz_b66 : h0.size ≤ b66 := Nat.le_trans K0.1 (Nat.le_of_eq g66.symm)
  have K66 := K0.ext E66
  have F66_44 : Fld Z h66 b66 "java/util/AbstractList" "modCount" "I" (.int (0 : Int32)) := D66 (Or.inl (hw _ (List.mem_of_getElem? (i := 44) rfl))) (ty := .int) (by decide)
  have F66_47 : Fld Z h66 b66 "java/util/ArrayList" "elementData" "[Ljava/lang/Object;" .null := D66 (Or.inl (hw _ (List.mem_of_getElem? (i := 47) rfl))) (ty := (.array (.object "java/lang/Object"))) (by decide)
  have F66_144 : Fld Z h66 b66 "java/util/ArrayList" "size" "I" (.int (0 : Int32)) := D66 (Or.inl (hw _ (List.mem_of_getElem? (i := 144) rfl))) (ty := .int) (by decide)
  refine own_go (B := T66.setTop (mkF m 8 #[.val (.ref a)] [(.ref b66), (.ref a)])) (fun t k => st66 _ k) ?_
  refine own_go (B := T66.setTop (mkF m 9 #[.val (.ref a)] [(.ref b66), (.ref b66), (.ref a)])) (fun t k => XS.dup X66.here hx rfl (hb hby own_d5_8) rfl rfl k) ?_
  have f68 := (E1.ext E66)
  have lt_a_67 := f68.lt
  have lt_b66_67 := A66.lt
  obtain ⟨_, _, ⟨T69, L69, k69, n69⟩, -, X69, ⟨Lc69, hQ69, l69, y69, z69⟩, st69⟩ := X66.specialBack hx (y := (⟨"java/util/ArrayList", "<init>", "()V"⟩ : MethodName)) rfl hown (mvT hZ (hw _ (List.mem_of_getElem? (i := 27) rfl))) (mvT hZ (hw _ (List.mem_of_getElem? (i := 28) rfl))) (mvT hZ (hw _ (List.mem_of_getElem? (i := 29) rfl))) (by decide) (backOf (W := 2) (own_rm_al l Z a0 hw [] b66 w_DEF h66 n0 O66 S_DEF A66 F66_44 F66_47 F66_144 g_b66) hZ (hw _ (List.mem_of_getElem? (i := 29) rfl)) (hw _ (List.mem_of_getElem? (i := 26) rfl)) (by decide) (by decide)) (g := (mkF m 9 #[.val (.ref a)] [(.ref b66), (.ref b66), (.ref a)])) rfl (by rw [hml]; rfl) (Steps.refl _) (a := b66) (argsL := []) (rest := [(.ref b66), (.ref a)]) (lenOf own_pd_0 rfl) rfl (by show 2 * 0 + _ ≤ _; exact Nat.le_of_eq rfl) (hb hby own_d5_9) (fun _ _ => ⟨rfl, e66, (by decide : 1 + 0 ≤ _), (by decide : 3 + 0 ≤ _)⟩)
  dsimp only [Pt.U, Pt.locs, Pt.cells, Pt.slots] at X69 l69 y69 z69 st69 hQ69
  subst l69 y69 z69
  obtain ⟨rfl, N69q, Kc69, Q69_0, Q69_1, Q69_2, Q69_3⟩ := hQ69
  have O69 := O66.keep Kc69 (allS g_b66 all0)
  have K69 := K66.trans Kc69 (allS (Or.inr sz_b66) all0)
  have N69 := Fr.app N0 N69q
  refine own_go (B := T69.setTop (mkF m 12 #[.val (.ref a)] [(.ref b66), (.ref a)])) (fun t k => st69.trans k) ?_
  have f70 := ((F3.ext E66).keep Kc69 (ninS (Nat.ne_of_lt (Nat.lt_of_lt_of_le lt_a_66 (Nat.le_of_eq g66.symm))) nin0))
  have f71 := (f68.keep Kc69)
  obtain ⟨T72, h72, X72, e72, W72, st72⟩ := putF X69 hx hZ hown (host := "") (Or.inl (hw _ (List.mem_of_getElem? (i := 48) rfl))) Via.refl (rfl : T69.heap = T69.heap) f70 f71 (Or.inr ⟨(hw _ (List.mem_of_getElem? (i := 49) rfl)), rfl, hnm⟩) (hw _ (List.mem_of_getElem? (i := 18) rfl)) (ty := (.object "java/util/List")) (by decide) rfl rfl (g := (mkF m 12 #[.val (.ref a)] [(.ref b66), (.ref a)])) rfl rfl (hb hby own_d5_12)
  have Fw72 := f70.same W72
  have N72 := Fr.snoc X72 N69 G2
  have O72 := O69.wr W72 G2
  have K72 := K69.wr W72 (Or.inl (by simp))
  refine own_go (B := T72.setTop (mkF m 15 #[.val (.ref a)] [])) (fun t k => st72 _ k) ?_
  refine own_go (B := T72.setTop (mkF m 16 #[.val (.ref a)] [(.ref a)])) (fun t k => XS.aloadN X72.here hx rfl (hb hby own_d5_15) rfl rfl k) ?_
  obtain ⟨T73, h73, X73, e73, E73, A73, D73, -, st73⟩ := newO X72 hx hZ hown (hw _ (List.mem_of_getElem? (i := 50) rfl)) (hw _ (List.mem_of_getElem? (i := 51) rfl)) (hw _ (List.mem_of_getElem? (i := 52) rfl)) e72 (g := (mkF m 16 #[.val (.ref a)] [(.ref a)])) rfl (hb hby own_d5_16) (by decide) (by decide)
  obtain ⟨b73, g73⟩ : ∃ z, z = h72.size := ⟨_, rfl⟩
  rw [← g73] at A73 D73 st73
  have f74 := (f71.wr W72)
  have lt_a_73 := f74.lt
  have f75 := (Q69_0.wr W72)
  have lt_b66_73 := f75.lt
  have g_b73 : n0 ≤ b73 := Nat.le_trans (own_n0 O72) (Nat.le_of_eq g73.symm)
  have O73 := O72.ext E73
  have sz_b73 : h0.size ≤ b73 := Nat.le_trans K72.1 (Nat.le_of_eq g73.symm)
  have K73 := K72.ext E73
  have F73_58 : Fld Z h73 b73 "java/util/BitSet" "wordsInUse" "I" (.int (0 : Int32)) := D73 (Or.inl (hw _ (List.mem_of_getElem? (i := 58) rfl))) (ty := .int) (by decide)
  have F73_60 : Fld Z h73 b73 "java/util/BitSet" "sizeIsSticky" "Z" (.int (0 : Int32)) := D73 (Or.inl (hw _ (List.mem_of_getElem? (i := 60) rfl))) (ty := .boolean) (by decide)
  have F73_71 : Fld Z h73 b73 "java/util/BitSet" "words" "[J" .null := D73 (Or.inl (hw _ (List.mem_of_getElem? (i := 71) rfl))) (ty := (.array .long)) (by decide)
  refine own_go (B := T73.setTop (mkF m 19 #[.val (.ref a)] [(.ref b73), (.ref a)])) (fun t k => st73 _ k) ?_
  refine own_go (B := T73.setTop (mkF m 20 #[.val (.ref a)] [(.ref b73), (.ref b73), (.ref a)])) (fun t k => XS.dup X73.here hx rfl (hb hby own_d5_19) rfl rfl k) ?_
  have f77 := (f74.ext E73)
  have lt_a_76 := f77.lt
  have f78 := (f75.ext E73)
  have lt_b66_76 := f78.lt
  have lt_b73_76 := A73.lt
  obtain ⟨_, _, ⟨T79, L79, k79, n79⟩, -, X79, ⟨Lc79, hQ79, l79, y79, z79⟩, st79⟩ := X73.specialBack hx (y := (⟨"java/util/BitSet", "<init>", "()V"⟩ : MethodName)) rfl hown (mvT hZ (hw _ (List.mem_of_getElem? (i := 53) rfl))) (mvT hZ (hw _ (List.mem_of_getElem? (i := 54) rfl))) (mvT hZ (hw _ (List.mem_of_getElem? (i := 55) rfl))) (by decide) (backOf (W := 2) (own_rm_bs l Z a0 hw [] b73 h73 n0 O73 A73 g_b73 F73_58 F73_60 F73_71) hZ (hw _ (List.mem_of_getElem? (i := 55) rfl)) (hw _ (List.mem_of_getElem? (i := 52) rfl)) (by decide) (by decide)) (g := (mkF m 20 #[.val (.ref a)] [(.ref b73), (.ref b73), (.ref a)])) rfl (by rw [hml]; rfl) (Steps.refl _) (a := b73) (argsL := []) (rest := [(.ref b73), (.ref a)]) (lenOf own_pd_0 rfl) rfl (by show 2 * 0 + _ ≤ _; exact Nat.le_of_eq rfl) (hb hby own_d5_20) (fun _ _ => ⟨rfl, e73, (by decide : 2 + 1 ≤ _), (by decide : 6 + 1 ≤ _)⟩)
  dsimp only [Pt.U, Pt.locs, Pt.cells, Pt.slots] at X79 l79 y79 z79 st79 hQ79
  subst l79 y79 z79
  obtain ⟨rfl, N79q, Kc79, Q79_0, Q79_1⟩ := hQ79
  have O79 := O73.keep Kc79 (allS g_b73 all0)
  have K79 := K73.trans Kc79 (allS (Or.inr sz_b73) all0)
  have N79 := Fr.app N72 N79q
  refine own_go (B := T79.setTop (mkF m 23 #[.val (.ref a)] [(.ref b73), (.ref a)])) (fun t k => st79.trans k) ?_
  have f80 := (((((F4.ext E66).keep Kc69 (ninS (Nat.ne_of_lt (Nat.lt_of_lt_of_le lt_a_66 (Nat.le_of_eq g66.symm))) nin0)).other W72 (Or.inr (slot_ne (Or.inr (hw _ (List.mem_of_getElem? (i := 73) rfl))) (Or.inr (hw _ (List.mem_of_getElem? (i := 49) rfl))) (by decide) (t := (.object "java/util/BitSet")) (t' := (.object "java/util/List")) (by decide) (by decide)))).ext E73).keep Kc79 (ninS (Nat.ne_of_lt (Nat.lt_of_lt_of_le lt_a_73 (Nat.le_of_eq g73.symm))) nin0))
  have f81 := (f77.keep Kc79)
  obtain ⟨T82, h82, X82, e82, W82, st82⟩ := putF X79 hx hZ hown (host := "") (Or.inl (hw _ (List.mem_of_getElem? (i := 72) rfl))) Via.refl (rfl : T79.heap = T79.heap) f80 f81 (Or.inr ⟨(hw _ (List.mem_of_getElem? (i := 73) rfl)), rfl, hnm⟩) (hw _ (List.mem_of_getElem? (i := 18) rfl)) (ty := (.object "java/util/BitSet")) (by decide) rfl rfl (g := (mkF m 23 #[.val (.ref a)] [(.ref b73), (.ref a)])) rfl rfl (hb hby own_d5_23)
  have Fw82 := f80.same W82
  have N82 := Fr.snoc X82 N79 G2
  have O82 := O79.wr W82 G2
  have K82 := K79.wr W82 (Or.inl (by simp))
  refine own_go (B := T82.setTop (mkF m 26 #[.val (.ref a)] [])) (fun t k => st82 _ k) ?_
  obtain ⟨fs, hr, hrun, hended, hW, hsame⟩ := X82.leave (v := none) (fun _ => rfl)
  have f84 := (f81.wr W82)
  have f85 := (((Fw72.ext E73).keep Kc79 (ninS (Nat.ne_of_lt (Nat.lt_of_lt_of_le lt_a_73 (Nat.le_of_eq g73.symm))) nin0)).other W82 (Or.inr (slot_ne (Or.inr (hw _ (List.mem_of_getElem? (i := 49) rfl))) (Or.inr (hw _ (List.mem_of_getElem? (i := 73) rfl))) (by decide) (t := (.object "java/util/List")) (t' := (.object "java/util/BitSet")) (by decide) (by decide))))
  have f86 := ((f78.keep Kc79).wr W82)
  have f87 := ((((Q69_1.other W72 (Or.inl (Ne.symm (Nat.ne_of_lt (Nat.lt_of_lt_of_le lt_a_66 (Nat.le_of_eq g66.symm)))))).ext E73).keep Kc79 (ninS (Nat.ne_of_lt (Nat.lt_of_lt_of_le lt_b66_73 (Nat.le_of_eq g73.symm))) nin0)).other W82 (Or.inl (Ne.symm (Nat.ne_of_lt (Nat.lt_of_lt_of_le lt_a_66 (Nat.le_of_eq g66.symm))))))
  have f88 := ((((Q69_2.other W72 (Or.inl (Ne.symm (Nat.ne_of_lt (Nat.lt_of_lt_of_le lt_a_66 (Nat.le_of_eq g66.symm)))))).ext E73).keep Kc79 (ninS (Nat.ne_of_lt (Nat.lt_of_lt_of_le lt_b66_73 (Nat.le_of_eq g73.symm))) nin0)).other W82 (Or.inl (Ne.symm (Nat.ne_of_lt (Nat.lt_of_lt_of_le lt_a_66 (Nat.le_of_eq g66.symm))))))
  have f89 := ((((Q69_3.other W72 (Or.inl (Ne.symm (Nat.ne_of_lt (Nat.lt_of_lt_of_le lt_a_66 (Nat.le_of_eq g66.symm)))))).ext E73).keep Kc79 (ninS (Nat.ne_of_lt (Nat.lt_of_lt_of_le lt_b66_73 (Nat.le_of_eq g73.symm))) nin0)).other W82 (Or.inl (Ne.symm (Nat.ne_of_lt (Nat.lt_of_lt_of_le lt_a_66 (Nat.le_of_eq g66.symm))))))
  have f90 := (Q79_0.wr W82)
  have f91 := (Q79_1.other W82 (Or.inl (Ne.symm (Nat.ne_of_lt (Nat.lt_of_lt_of_le lt_a_73 (Nat.le_of_eq g73.symm))))))
  refine ⟨_, _, X82.returnOut hx Bd.returns (hb hby own_d5_26) hr, hK _ _ ⟨hrun, hended, _, _, rfl, ?_, ⟨_, rfl⟩, hW, hsame.mono (by decide) (by decide)⟩⟩
  show own_Q_ul Z a w_DEF h0 n0 _ T82.heap _
  rw [e82]
  exact ⟨b66, b73, rfl, N82, K82, sz_b66, sz_b73, f84, f85, Fw82, f86, f87, f88, f89, f90, f91⟩
theorem own_d0_0 : decode prog_55_method_1_code 0 = .ok (.aload_n 0, 1) := by decide +kernel
theorem own_d0_1 : decode prog_55_method_1_code 1 = .ok (.invokespecial 1, 3) := by decide +kernel
theorem own_d0_4 : decode prog_55_method_1_code 4 = .ok (.aload_n 0, 1) := by decide +kernel
theorem own_d0_5 : decode prog_55_method_1_code 5 = .ok (.new 7, 3) := by decide +kernel
theorem own_d0_8 : decode prog_55_method_1_code 8 = .ok (.dup, 1) := by decide +kernel
theorem own_d0_9 : decode prog_55_method_1_code 9 = .ok (.invokespecial 9, 3) := by decide +kernel
theorem own_d0_12 : decode prog_55_method_1_code 12 = .ok (.putfield 10, 3) := by decide +kernel
theorem own_d0_15 : decode prog_55_method_1_code 15 = .ok (.aload_n 0, 1) := by decide +kernel
theorem own_d0_16 : decode prog_55_method_1_code 16 = .ok (.new 16, 3) := by decide +kernel
theorem own_d0_19 : decode prog_55_method_1_code 19 = .ok (.dup, 1) := by decide +kernel
theorem own_d0_20 : decode prog_55_method_1_code 20 = .ok (.invokespecial 18, 3) := by decide +kernel
theorem own_d0_23 : decode prog_55_method_1_code 23 = .ok (.putfield 19, 3) := by decide +kernel
theorem own_d0_26 : decode prog_55_method_1_code 26 = .ok (.aload_n 0, 1) := by decide +kernel
theorem own_d0_27 : decode prog_55_method_1_code 27 = .ok (.ldc2_w 23, 3) := by decide +kernel
theorem own_d0_30 : decode prog_55_method_1_code 30 = .ok (.putfield 25, 3) := by decide +kernel
theorem own_d0_33 : decode prog_55_method_1_code 33 = .ok (.aload_n 0, 1) := by decide +kernel
theorem own_d0_34 : decode prog_55_method_1_code 34 = .ok (.lconst 0, 1) := by decide +kernel
theorem own_d0_35 : decode prog_55_method_1_code 35 = .ok (.putfield 29, 3) := by decide +kernel
theorem own_d0_38 : decode prog_55_method_1_code 38 = .ok (.aload_n 0, 1) := by decide +kernel
theorem own_d0_39 : decode prog_55_method_1_code 39 = .ok (.lload_n 1, 1) := by decide +kernel
theorem own_d0_40 : decode prog_55_method_1_code 40 = .ok (.putfield 32, 3) := by decide +kernel
theorem own_d0_43 : decode prog_55_method_1_code 43 = .ok (.aload_n 0, 1) := by decide +kernel
theorem own_d0_44 : decode prog_55_method_1_code 44 = .ok (.aload_n 3, 1) := by decide +kernel
theorem own_d0_45 : decode prog_55_method_1_code 45 = .ok (.putfield 35, 3) := by decide +kernel
theorem own_d0_48 : decode prog_55_method_1_code 48 = .ok (.aload_n 0, 1) := by decide +kernel
theorem own_d0_49 : decode prog_55_method_1_code 49 = .ok (.iload 4, 2) := by decide +kernel
theorem own_d0_51 : decode prog_55_method_1_code 51 = .ok (.putfield 39, 3) := by decide +kernel
theorem own_d0_54 : decode prog_55_method_1_code 54 = .ok (.return_, 1) := by decide +kernel
theorem own_pn_8 : plainName "com/example/interleave/interleave/engine/Transaction" = true := by first | (simp [plainName, overriddenIn]; done) | decide +kernel
theorem own_ef_tr0 (m : MethodId) (x0 : Addr) (x1 : Int64) (x2 : Addr) (x3 : Int32)  : entryFrame m #[(.ref x0), (.long x1), (.ref x2), (.int x3)] 5 = mkF m 0 #[.val (.ref x0), .val (.long x1), .second, .val (.ref x2), .val (.int x3)] [] := by first | (simp [entryFrame, mkF, argsToLocals, Value.category]; done) | rfl
def own_Q_tr0 (Z : State) (a lv w_DEF : Addr) (bg : Int64) (h0 : Heap) (n0 : Nat) (v : Option Value) (h : Heap) (L : List Loc) : Prop := ∃ un wr en ch : Addr, v = none ∧ Fr n0 L ∧ Keep h0 h [a] ∧ h0.size ≤ un ∧ h0.size ≤ wr ∧ h0.size ≤ en ∧ h0.size ≤ ch ∧ Exa Z h a "com/example/interleave/interleave/engine/Transaction" ∧ Fld Z h a "com/example/interleave/interleave/engine/Transaction" "undo" "Lcom/example/interleave/interleave/engine/UndoLog;" (.ref un) ∧ Fld Z h a "com/example/interleave/interleave/engine/Transaction" "written" "Ljava/util/Map;" (.ref wr) ∧ Fld Z h a "com/example/interleave/interleave/engine/Transaction" "commitNumber" "J" (.long (0 : Int64)) ∧ Exa Z h un "com/example/interleave/interleave/engine/UndoLog" ∧ Fld Z h un "com/example/interleave/interleave/engine/UndoLog" "entries" "Ljava/util/List;" (.ref en) ∧ Fld Z h un "com/example/interleave/interleave/engine/UndoLog" "changes" "Ljava/util/BitSet;" (.ref ch) ∧ Exa Z h en "java/util/ArrayList" ∧ Fld Z h en "java/util/AbstractList" "modCount" "I" (.int (0 : Int32)) ∧ Fld Z h en "java/util/ArrayList" "elementData" "[Ljava/lang/Object;" (.ref w_DEF) ∧ Fld Z h en "java/util/ArrayList" "size" "I" (.int (0 : Int32)) ∧ Exa Z h ch "java/util/BitSet" ∧ Fld Z h ch "java/util/BitSet" "wordsInUse" "I" (.int (0 : Int32)) ∧ Exa Z h wr "java/util/LinkedHashMap" ∧ Fld Z h wr "java/util/HashMap" "modCount" "I" (.int (0 : Int32)) ∧ Fld Z h wr "java/util/HashMap" "table" "[Ljava/util/HashMap$Node;" .null ∧ Fld Z h wr "java/util/LinkedHashMap" "head" "Ljava/util/LinkedHashMap$Entry;" .null ∧ Fld Z h wr "java/util/LinkedHashMap" "tail" "Ljava/util/LinkedHashMap$Entry;" .null
set_option maxRecDepth 65536 in
set_option maxHeartbeats 40000000 in
theorem own_rm_tr0 (l : Launch) (Z : State) (a0 : Array Value) (hw : ∀ d ∈ tables_1, d.before a0 Z = true) (ws : List Jvm.Cond) (a lv w_DEF : Addr) (bg : Int64) (h0 : Heap) (n0 : Nat) (O0 : Old Z n0 h0) (S_DEF : Sta Z Z.heap "java/util/ArrayList" "DEFAULTCAPACITY_EMPTY_ELEMENTDATA" "[Ljava/lang/Object;" (.ref w_DEF)) (E1 : Exa Z h0 a "com/example/interleave/interleave/engine/Transaction") (G2 : n0 ≤ a) (F3 : Fld Z h0 a "com/example/interleave/interleave/engine/Transaction" "undo" "Lcom/example/interleave/interleave/engine/UndoLog;" .null) (F4 : Fld Z h0 a "com/example/interleave/interleave/engine/Transaction" "written" "Ljava/util/Map;" .null) (F5 : Fld Z h0 a "com/example/interleave/interleave/engine/Transaction" "snapshot" "J" (.long (0 : Int64))) (F6 : Fld Z h0 a "com/example/interleave/interleave/engine/Transaction" "commitNumber" "J" (.long (0 : Int64))) (F7 : Fld Z h0 a "com/example/interleave/interleave/engine/Transaction" "beginNumber" "J" (.long (0 : Int64))) (F8 : Fld Z h0 a "com/example/interleave/interleave/engine/Transaction" "level" "Lcom/example/interleave/interleave/sql/IsolationLevel;" .null) (F9 : Fld Z h0 a "com/example/interleave/interleave/engine/Transaction" "autocommit" "Z" (.int (0 : Int32))) :
    MetFree l (⟨"com/example/interleave/interleave/engine/Transaction", "<init>", "(JLcom/example/interleave/interleave/sql/IsolationLevel;Z)V"⟩ : MethodName) (head1 (Jvm.Cond.code (⟨"com/example/interleave/interleave/engine/Transaction", "<init>", "(JLcom/example/interleave/interleave/sql/IsolationLevel;Z)V"⟩ : MethodName) prog_55_method_1_code 5 none :: ws) ({ frames := 5, cells := 5, slots := 21, locals := 64 } : Room)) (fun ar9 U => ar9 = #[(.ref a), (.long bg), (.ref lv), (.int (0 : Int32))] ∧ Z.Warmed39 U.vm ∧ U.heap = h0) (fun _ _ _ _ _ => True) (fun _ U o U' => ∃ v L, o = .returned v ∧ own_Q_tr0 Z a lv w_DEF bg h0 n0 v U'.heap L ∧ FrameEnd U o U' L ({ frames := 5, cells := 5, slots := 21, locals := 64 } : Room).cells ({ frames := 5, cells := 5, slots := 21, locals := 64 } : Room).slots) := by
  refine MetFree.of_bodySF (plainFor_of_name own_pn_8) hisR ?_
  intro p e s m args below meth c s₁ Bd hml0 hP hK0
  obtain ⟨rfl, hZ, hh⟩ := hP
  have hx := Bd.exec
  have hby := Bd.bytes
  have hml : c.maxLocals = 5 := hml0
  have hown : s.vm.findClass "com/example/interleave/interleave/engine/Transaction" = some m.cls := findClass_of_methodNamed Bd.named
  have hnm := (name_of_methodNamed Bd.named Bd.method).1
  have X0 : Stand p l e ({ frames := 5, cells := 5, slots := 21, locals := 64 } : Room) s m #[(.ref a), (.long bg), (.ref lv), (.int (0 : Int32))] below meth c s₁ [] 0 0 := Stand.of_body Bd
  have e0 : s₁.heap = h0 := by rw [← hh, Bd.state]; rfl
  have N0 := Fr.nil n0
  have K0 := Keep.refl h0 [a]
  refine own_open fun K hK => ?_
  refine own_go (B := s₁.setTop (mkF m 0 #[.val (.ref a), .val (.long bg), .second, .val (.ref lv), .val (.int (0 : Int32))] [])) (fun t k => castTop (own_ef_tr0 m a bg lv (0 : Int32)) k) ?_
  refine own_go (B := s₁.setTop (mkF m 1 #[.val (.ref a), .val (.long bg), .second, .val (.ref lv), .val (.int (0 : Int32))] [(.ref a)])) (fun t k => XS.aloadN X0.here hx rfl (hb hby own_d0_0) rfl rfl k) ?_
  obtain ⟨T92, X92, e92, st92⟩ := initO X0 hx hZ hown (hw _ (List.mem_of_getElem? (i := 14) rfl)) (hw _ (List.mem_of_getElem? (i := 15) rfl)) (hw _ (List.mem_of_getElem? (i := 16) rfl)) e0 (g := (mkF m 1 #[.val (.ref a), .val (.long bg), .second, .val (.ref lv), .val (.int (0 : Int32))] [(.ref a)])) rfl (by rw [hml]; rfl) rfl (hb hby own_d0_1) (by decide) (W := 0) (by show 2 * 0 + _ ≤ _; exact Nat.le_of_eq rfl) (by decide)
  refine own_go (B := T92.setTop (mkF m 4 #[.val (.ref a), .val (.long bg), .second, .val (.ref lv), .val (.int (0 : Int32))] [])) (fun t k => st92 _ k) ?_
  refine own_go (B := T92.setTop (mkF m 5 #[.val (.ref a), .val (.long bg), .second, .val (.ref lv), .val (.int (0 : Int32))] [(.ref a)])) (fun t k => XS.aloadN X92.here hx rfl (hb hby own_d0_4) rfl rfl k) ?_
  obtain ⟨T93, h93, X93, e93, E93, A93, D93, -, st93⟩ := newO X92 hx hZ hown (hw _ (List.mem_of_getElem? (i := 17) rfl)) (hw _ (List.mem_of_getElem? (i := 18) rfl)) (hw _ (List.mem_of_getElem? (i := 19) rfl)) e92 (g := (mkF m 5 #[.val (.ref a), .val (.long bg), .second, .val (.ref lv), .val (.int (0 : Int32))] [(.ref a)])) rfl (hb hby own_d0_5) (by decide) (by decide)
  obtain ⟨b93, g93⟩ : ∃ z, z = h0.size := ⟨_, rfl⟩
  rw [← g93] at A93 D93 st93
  have lt_a_93 := E1.lt
  have g_b93 : n0 ≤ b93 := Nat.le_trans (own_n0 O0) (Nat.le_of_eq g93.symm)
  have O93 := O0.ext E93
  have sz_b93 : h0.size ≤ b93 := Nat.le_trans K0.1 (Nat.le_of_eq g93.symm)
  have K93 := K0.ext E93
  have F93_49 : Fld Z h93 b93 "com/example/interleave/interleave/engine/UndoLog" "entries" "Ljava/util/List;" .null := D93 (Or.inr (hw _ (List.mem_of_getElem? (i := 49) rfl))) (ty := (.object "java/util/List")) (by decide)
  have F93_73 : Fld Z h93 b93 "com/example/interleave/interleave/engine/UndoLog" "changes" "Ljava/util/BitSet;" .null := D93 (Or.inr (hw _ (List.mem_of_getElem? (i := 73) rfl))) (ty := (.object "java/util/BitSet")) (by decide)
  refine own_go (B := T93.setTop (mkF m 8 #[.val (.ref a), .val (.long bg), .second, .val (.ref lv), .val (.int (0 : Int32))] [(.ref b93), (.ref a)])) (fun t k => st93 _ k) ?_
  refine own_go (B := T93.setTop (mkF m 9 #[.val (.ref a), .val (.long bg), .second, .val (.ref lv), .val (.int (0 : Int32))] [(.ref b93), (.ref b93), (.ref a)])) (fun t k => XS.dup X93.here hx rfl (hb hby own_d0_8) rfl rfl k) ?_
  have f95 := (E1.ext E93)
  have lt_a_94 := f95.lt
  have lt_b93_94 := A93.lt
  obtain ⟨_, _, ⟨T96, L96, k96, n96⟩, -, X96, ⟨Lc96, hQ96, l96, y96, z96⟩, st96⟩ := X93.specialBack hx (y := (⟨"com/example/interleave/interleave/engine/UndoLog", "<init>", "()V"⟩ : MethodName)) rfl hown (mvT hZ (hw _ (List.mem_of_getElem? (i := 20) rfl))) (mvT hZ (hw _ (List.mem_of_getElem? (i := 21) rfl))) (mvT hZ (hw _ (List.mem_of_getElem? (i := 22) rfl))) (by decide) (backOf (W := 2) (own_rm_ul l Z a0 hw [] b93 w_DEF h93 n0 O93 S_DEF A93 g_b93 F93_49 F93_73) hZ (hw _ (List.mem_of_getElem? (i := 22) rfl)) (hw _ (List.mem_of_getElem? (i := 19) rfl)) (by decide) (by decide)) (g := (mkF m 9 #[.val (.ref a), .val (.long bg), .second, .val (.ref lv), .val (.int (0 : Int32))] [(.ref b93), (.ref b93), (.ref a)])) rfl (by rw [hml]; rfl) (Steps.refl _) (a := b93) (argsL := []) (rest := [(.ref b93), (.ref a)]) (lenOf own_pd_0 rfl) rfl (by show 2 * 0 + _ ≤ _; exact Nat.le_of_eq rfl) (hb hby own_d0_9) (fun _ _ => ⟨rfl, e93, (by decide : 1 + 3 ≤ _), (by decide : 2 + 7 ≤ _)⟩)
  dsimp only [Pt.U, Pt.locs, Pt.cells, Pt.slots] at X96 l96 y96 z96 st96 hQ96
  subst l96 y96 z96
  obtain ⟨en_96, ch_96, rfl, N96q, Kc96, Q96_0, Q96_1, Q96_2, Q96_3, Q96_4, Q96_5, Q96_6, Q96_7, Q96_8, Q96_9, Q96_10⟩ := hQ96
  have O96 := O93.keep Kc96 (allS g_b93 all0)
  have K96 := K93.trans Kc96 (allS (Or.inr sz_b93) all0)
  have N96 := Fr.app N0 N96q
  refine own_go (B := T96.setTop (mkF m 12 #[.val (.ref a), .val (.long bg), .second, .val (.ref lv), .val (.int (0 : Int32))] [(.ref b93), (.ref a)])) (fun t k => st96.trans k) ?_
  have g_en_96 : n0 ≤ en_96 := Nat.le_trans (own_n0 O93) Q96_0
  have sz_en_96 : h0.size ≤ en_96 := Nat.le_trans K93.1 Q96_0
  have g_ch_96 : n0 ≤ ch_96 := Nat.le_trans (own_n0 O93) Q96_1
  have sz_ch_96 : h0.size ≤ ch_96 := Nat.le_trans K93.1 Q96_1
  have f97 := ((F3.ext E93).keep Kc96 (ninS (Nat.ne_of_lt (Nat.lt_of_lt_of_le lt_a_93 (Nat.le_of_eq g93.symm))) nin0))
  have f98 := (f95.keep Kc96)
  obtain ⟨T99, h99, X99, e99, W99, st99⟩ := putF X96 hx hZ hown (host := "") (Or.inl (hw _ (List.mem_of_getElem? (i := 74) rfl))) Via.refl (rfl : T96.heap = T96.heap) f97 f98 (Or.inr ⟨(hw _ (List.mem_of_getElem? (i := 75) rfl)), rfl, hnm⟩) (hw _ (List.mem_of_getElem? (i := 9) rfl)) (ty := (.object "com/example/interleave/interleave/engine/UndoLog")) (by decide) rfl rfl (g := (mkF m 12 #[.val (.ref a), .val (.long bg), .second, .val (.ref lv), .val (.int (0 : Int32))] [(.ref b93), (.ref a)])) rfl rfl (hb hby own_d0_12)
  have Fw99 := f97.same W99
  have N99 := Fr.snoc X99 N96 G2
  have O99 := O96.wr W99 G2
  have K99 := K96.wr W99 (Or.inl (by simp))
  refine own_go (B := T99.setTop (mkF m 15 #[.val (.ref a), .val (.long bg), .second, .val (.ref lv), .val (.int (0 : Int32))] [])) (fun t k => st99 _ k) ?_
  refine own_go (B := T99.setTop (mkF m 16 #[.val (.ref a), .val (.long bg), .second, .val (.ref lv), .val (.int (0 : Int32))] [(.ref a)])) (fun t k => XS.aloadN X99.here hx rfl (hb hby own_d0_15) rfl rfl k) ?_
  obtain ⟨T100, h100, X100, e100, E100, A100, D100, -, st100⟩ := newO X99 hx hZ hown (hw _ (List.mem_of_getElem? (i := 76) rfl)) (hw _ (List.mem_of_getElem? (i := 77) rfl)) (hw _ (List.mem_of_getElem? (i := 78) rfl)) e99 (g := (mkF m 16 #[.val (.ref a), .val (.long bg), .second, .val (.ref lv), .val (.int (0 : Int32))] [(.ref a)])) rfl (hb hby own_d0_16) (by decide) (by decide)
  obtain ⟨b100, g100⟩ : ∃ z, z = h99.size := ⟨_, rfl⟩
  rw [← g100] at A100 D100 st100
  have f101 := (f98.wr W99)
  have lt_a_100 := f101.lt
  have f102 := (Q96_2.wr W99)
  have lt_b93_100 := f102.lt
  have f103 := (Q96_5.wr W99)
  have lt_en_96_100 := f103.lt
  have f104 := (Q96_9.wr W99)
  have lt_ch_96_100 := f104.lt
  have g_b100 : n0 ≤ b100 := Nat.le_trans (own_n0 O99) (Nat.le_of_eq g100.symm)
  have O100 := O99.ext E100
  have sz_b100 : h0.size ≤ b100 := Nat.le_trans K99.1 (Nat.le_of_eq g100.symm)
  have K100 := K99.ext E100
  have F100_97 : Fld Z h100 b100 "java/util/HashMap" "loadFactor" "F" (.float (0 : UInt32)) := D100 (Or.inr (hw _ (List.mem_of_getElem? (i := 97) rfl))) (ty := .float) (by decide)
  have F100_99 : Fld Z h100 b100 "java/util/LinkedHashMap" "putMode" "I" (.int (0 : Int32)) := D100 (Or.inl (hw _ (List.mem_of_getElem? (i := 99) rfl))) (ty := .int) (by decide)
  have F100_101 : Fld Z h100 b100 "java/util/LinkedHashMap" "accessOrder" "Z" (.int (0 : Int32)) := D100 (Or.inr (hw _ (List.mem_of_getElem? (i := 101) rfl))) (ty := .boolean) (by decide)
  have F100_165 : Fld Z h100 b100 "java/util/HashMap" "modCount" "I" (.int (0 : Int32)) := D100 (Or.inl (hw _ (List.mem_of_getElem? (i := 165) rfl))) (ty := .int) (by decide)
  have F100_167 : Fld Z h100 b100 "java/util/HashMap" "table" "[Ljava/util/HashMap$Node;" .null := D100 (Or.inl (hw _ (List.mem_of_getElem? (i := 167) rfl))) (ty := (.array (.object "java/util/HashMap$Node"))) (by decide)
  have F100_169 : Fld Z h100 b100 "java/util/LinkedHashMap" "tail" "Ljava/util/LinkedHashMap$Entry;" .null := D100 (Or.inl (hw _ (List.mem_of_getElem? (i := 169) rfl))) (ty := (.object "java/util/LinkedHashMap$Entry")) (by decide)
  have F100_171 : Fld Z h100 b100 "java/util/LinkedHashMap" "head" "Ljava/util/LinkedHashMap$Entry;" .null := D100 (Or.inl (hw _ (List.mem_of_getElem? (i := 171) rfl))) (ty := (.object "java/util/LinkedHashMap$Entry")) (by decide)
  refine own_go (B := T100.setTop (mkF m 19 #[.val (.ref a), .val (.long bg), .second, .val (.ref lv), .val (.int (0 : Int32))] [(.ref b100), (.ref a)])) (fun t k => st100 _ k) ?_
  refine own_go (B := T100.setTop (mkF m 20 #[.val (.ref a), .val (.long bg), .second, .val (.ref lv), .val (.int (0 : Int32))] [(.ref b100), (.ref b100), (.ref a)])) (fun t k => XS.dup X100.here hx rfl (hb hby own_d0_19) rfl rfl k) ?_
  have f106 := (f101.ext E100)
  have lt_a_105 := f106.lt
  have f107 := (f102.ext E100)
  have lt_b93_105 := f107.lt
  have f108 := (f103.ext E100)
  have lt_en_96_105 := f108.lt
  have f109 := (f104.ext E100)
  have lt_ch_96_105 := f109.lt
  have lt_b100_105 := A100.lt
  obtain ⟨_, _, ⟨T110, L110, k110, n110⟩, -, X110, ⟨Lc110, hQ110, l110, y110, z110⟩, st110⟩ := X100.specialBack hx (y := (⟨"java/util/LinkedHashMap", "<init>", "()V"⟩ : MethodName)) rfl hown (mvT hZ (hw _ (List.mem_of_getElem? (i := 79) rfl))) (mvT hZ (hw _ (List.mem_of_getElem? (i := 80) rfl))) (mvT hZ (hw _ (List.mem_of_getElem? (i := 81) rfl))) (by decide) (backOf (W := 2) (own_rm_lhm l Z a0 hw [] b100 h100 n0 O100 A100 F100_165 F100_167 F100_171 F100_169 F100_99 F100_101 F100_97 g_b100) hZ (hw _ (List.mem_of_getElem? (i := 81) rfl)) (hw _ (List.mem_of_getElem? (i := 78) rfl)) (by decide) (by decide)) (g := (mkF m 20 #[.val (.ref a), .val (.long bg), .second, .val (.ref lv), .val (.int (0 : Int32))] [(.ref b100), (.ref b100), (.ref a)])) rfl (by rw [hml]; rfl) (Steps.refl _) (a := b100) (argsL := []) (rest := [(.ref b100), (.ref a)]) (lenOf own_pd_0 rfl) rfl (by show 2 * 0 + _ ≤ _; exact Nat.le_of_eq rfl) (hb hby own_d0_20) (fun _ _ => ⟨rfl, e100, (by decide : 5 + 0 ≤ _), (by decide : 21 + 0 ≤ _)⟩)
  dsimp only [Pt.U, Pt.locs, Pt.cells, Pt.slots] at X110 l110 y110 z110 st110 hQ110
  subst l110 y110 z110
  obtain ⟨rfl, N110q, Kc110, Q110_0, Q110_1, Q110_2, Q110_3, Q110_4⟩ := hQ110
  have O110 := O100.keep Kc110 (allS g_b100 all0)
  have K110 := K100.trans Kc110 (allS (Or.inr sz_b100) all0)
  have N110 := Fr.app N99 N110q
  refine own_go (B := T110.setTop (mkF m 23 #[.val (.ref a), .val (.long bg), .second, .val (.ref lv), .val (.int (0 : Int32))] [(.ref b100), (.ref a)])) (fun t k => st110.trans k) ?_
  have f111 := (((((F4.ext E93).keep Kc96 (ninS (Nat.ne_of_lt (Nat.lt_of_lt_of_le lt_a_93 (Nat.le_of_eq g93.symm))) nin0)).other W99 (Or.inr (slot_ne (Or.inr (hw _ (List.mem_of_getElem? (i := 103) rfl))) (Or.inr (hw _ (List.mem_of_getElem? (i := 75) rfl))) (by decide) (t := (.object "java/util/Map")) (t' := (.object "com/example/interleave/interleave/engine/UndoLog")) (by decide) (by decide)))).ext E100).keep Kc110 (ninS (Nat.ne_of_lt (Nat.lt_of_lt_of_le lt_a_100 (Nat.le_of_eq g100.symm))) nin0))
  have f112 := (f106.keep Kc110)
  obtain ⟨T113, h113, X113, e113, W113, st113⟩ := putF X110 hx hZ hown (host := "") (Or.inl (hw _ (List.mem_of_getElem? (i := 102) rfl))) Via.refl (rfl : T110.heap = T110.heap) f111 f112 (Or.inr ⟨(hw _ (List.mem_of_getElem? (i := 103) rfl)), rfl, hnm⟩) (hw _ (List.mem_of_getElem? (i := 9) rfl)) (ty := (.object "java/util/Map")) (by decide) rfl rfl (g := (mkF m 23 #[.val (.ref a), .val (.long bg), .second, .val (.ref lv), .val (.int (0 : Int32))] [(.ref b100), (.ref a)])) rfl rfl (hb hby own_d0_23)
  have Fw113 := f111.same W113
  have N113 := Fr.snoc X113 N110 G2
  have O113 := O110.wr W113 G2
  have K113 := K110.wr W113 (Or.inl (by simp))
  refine own_go (B := T113.setTop (mkF m 26 #[.val (.ref a), .val (.long bg), .second, .val (.ref lv), .val (.int (0 : Int32))] [])) (fun t k => st113 _ k) ?_
  refine own_go (B := T113.setTop (mkF m 27 #[.val (.ref a), .val (.long bg), .second, .val (.ref lv), .val (.int (0 : Int32))] [(.ref a)])) (fun t k => XS.aloadN X113.here hx rfl (hb hby own_d0_26) rfl rfl k) ?_
  refine own_go (B := T113.setTop (mkF m 30 #[.val (.ref a), .val (.long bg), .second, .val (.ref lv), .val (.int (0 : Int32))] [(.long (-1 : Int64)), (.ref a)])) (fun t k => X113.ldc2Long hx hown (mvT hZ (hw _ (List.mem_of_getElem? (i := 104) rfl))) (g := (mkF m 27 #[.val (.ref a), .val (.long bg), .second, .val (.ref lv), .val (.int (0 : Int32))] [(.ref a)])) rfl (hb hby own_d0_27) _ k) ?_
  have f114 := ((((((F5.ext E93).keep Kc96 (ninS (Nat.ne_of_lt (Nat.lt_of_lt_of_le lt_a_93 (Nat.le_of_eq g93.symm))) nin0)).other W99 (Or.inr (slot_ne (Or.inl (hw _ (List.mem_of_getElem? (i := 106) rfl))) (Or.inr (hw _ (List.mem_of_getElem? (i := 75) rfl))) (by decide) (t := .long) (t' := (.object "com/example/interleave/interleave/engine/UndoLog")) (by decide) (by decide)))).ext E100).keep Kc110 (ninS (Nat.ne_of_lt (Nat.lt_of_lt_of_le lt_a_100 (Nat.le_of_eq g100.symm))) nin0)).other W113 (Or.inr (slot_ne (Or.inl (hw _ (List.mem_of_getElem? (i := 106) rfl))) (Or.inr (hw _ (List.mem_of_getElem? (i := 103) rfl))) (by decide) (t := .long) (t' := (.object "java/util/Map")) (by decide) (by decide))))
  have f115 := (f112.wr W113)
  obtain ⟨T116, h116, X116, e116, W116, st116⟩ := putF X113 hx hZ hown (host := "") (Or.inl (hw _ (List.mem_of_getElem? (i := 105) rfl))) Via.refl e113 f114 f115 (Or.inl (hw _ (List.mem_of_getElem? (i := 106) rfl))) (hw _ (List.mem_of_getElem? (i := 9) rfl)) (ty := .long) (by decide) rfl rfl (g := (mkF m 30 #[.val (.ref a), .val (.long bg), .second, .val (.ref lv), .val (.int (0 : Int32))] [(.long (-1 : Int64)), (.ref a)])) rfl rfl (hb hby own_d0_30)
  have Fw116 := f114.same W116
  have N116 := Fr.snoc X116 N113 G2
  have O116 := O113.wr W116 G2
  have K116 := K113.wr W116 (Or.inl (by simp))
  refine own_go (B := T116.setTop (mkF m 33 #[.val (.ref a), .val (.long bg), .second, .val (.ref lv), .val (.int (0 : Int32))] [])) (fun t k => st116 _ k) ?_
  refine own_go (B := T116.setTop (mkF m 34 #[.val (.ref a), .val (.long bg), .second, .val (.ref lv), .val (.int (0 : Int32))] [(.ref a)])) (fun t k => XS.aloadN X116.here hx rfl (hb hby own_d0_33) rfl rfl k) ?_
  refine own_go (B := T116.setTop (mkF m 35 #[.val (.ref a), .val (.long bg), .second, .val (.ref lv), .val (.int (0 : Int32))] [(.long (0 : Int64)), (.ref a)])) (fun t k => XS.lconst X116.here hx rfl (hb hby own_d0_34) k) ?_
  have f117 := (((((((F6.ext E93).keep Kc96 (ninS (Nat.ne_of_lt (Nat.lt_of_lt_of_le lt_a_93 (Nat.le_of_eq g93.symm))) nin0)).other W99 (Or.inr (slot_ne (Or.inl (hw _ (List.mem_of_getElem? (i := 108) rfl))) (Or.inr (hw _ (List.mem_of_getElem? (i := 75) rfl))) (by decide) (t := .long) (t' := (.object "com/example/interleave/interleave/engine/UndoLog")) (by decide) (by decide)))).ext E100).keep Kc110 (ninS (Nat.ne_of_lt (Nat.lt_of_lt_of_le lt_a_100 (Nat.le_of_eq g100.symm))) nin0)).other W113 (Or.inr (slot_ne (Or.inl (hw _ (List.mem_of_getElem? (i := 108) rfl))) (Or.inr (hw _ (List.mem_of_getElem? (i := 103) rfl))) (by decide) (t := .long) (t' := (.object "java/util/Map")) (by decide) (by decide)))).other W116 (Or.inr (slot_ne (Or.inl (hw _ (List.mem_of_getElem? (i := 108) rfl))) (Or.inl (hw _ (List.mem_of_getElem? (i := 106) rfl))) (by decide) (t := .long) (t' := .long) (by decide) (by decide))))
  have f118 := (f115.wr W116)
  obtain ⟨T119, h119, X119, e119, W119, st119⟩ := putF X116 hx hZ hown (host := "") (Or.inl (hw _ (List.mem_of_getElem? (i := 107) rfl))) Via.refl e116 f117 f118 (Or.inl (hw _ (List.mem_of_getElem? (i := 108) rfl))) (hw _ (List.mem_of_getElem? (i := 9) rfl)) (ty := .long) (by decide) rfl rfl (g := (mkF m 35 #[.val (.ref a), .val (.long bg), .second, .val (.ref lv), .val (.int (0 : Int32))] [(.long (0 : Int64)), (.ref a)])) rfl rfl (hb hby own_d0_35)
  have Fw119 := f117.same W119
  have N119 := Fr.snoc X119 N116 G2
  have O119 := O116.wr W119 G2
  have K119 := K116.wr W119 (Or.inl (by simp))
  refine own_go (B := T119.setTop (mkF m 38 #[.val (.ref a), .val (.long bg), .second, .val (.ref lv), .val (.int (0 : Int32))] [])) (fun t k => st119 _ k) ?_
  refine own_go (B := T119.setTop (mkF m 39 #[.val (.ref a), .val (.long bg), .second, .val (.ref lv), .val (.int (0 : Int32))] [(.ref a)])) (fun t k => XS.aloadN X119.here hx rfl (hb hby own_d0_38) rfl rfl k) ?_
  refine own_go (B := T119.setTop (mkF m 40 #[.val (.ref a), .val (.long bg), .second, .val (.ref lv), .val (.int (0 : Int32))] [(.long bg), (.ref a)])) (fun t k => XS.lloadN X119.here hx rfl (hb hby own_d0_39) rfl k) ?_
  have f120 := ((((((((F7.ext E93).keep Kc96 (ninS (Nat.ne_of_lt (Nat.lt_of_lt_of_le lt_a_93 (Nat.le_of_eq g93.symm))) nin0)).other W99 (Or.inr (slot_ne (Or.inr (hw _ (List.mem_of_getElem? (i := 110) rfl))) (Or.inr (hw _ (List.mem_of_getElem? (i := 75) rfl))) (by decide) (t := .long) (t' := (.object "com/example/interleave/interleave/engine/UndoLog")) (by decide) (by decide)))).ext E100).keep Kc110 (ninS (Nat.ne_of_lt (Nat.lt_of_lt_of_le lt_a_100 (Nat.le_of_eq g100.symm))) nin0)).other W113 (Or.inr (slot_ne (Or.inr (hw _ (List.mem_of_getElem? (i := 110) rfl))) (Or.inr (hw _ (List.mem_of_getElem? (i := 103) rfl))) (by decide) (t := .long) (t' := (.object "java/util/Map")) (by decide) (by decide)))).other W116 (Or.inr (slot_ne (Or.inr (hw _ (List.mem_of_getElem? (i := 110) rfl))) (Or.inl (hw _ (List.mem_of_getElem? (i := 106) rfl))) (by decide) (t := .long) (t' := .long) (by decide) (by decide)))).other W119 (Or.inr (slot_ne (Or.inr (hw _ (List.mem_of_getElem? (i := 110) rfl))) (Or.inl (hw _ (List.mem_of_getElem? (i := 108) rfl))) (by decide) (t := .long) (t' := .long) (by decide) (by decide))))
  have f121 := (f118.wr W119)
  obtain ⟨T122, h122, X122, e122, W122, st122⟩ := putF X119 hx hZ hown (host := "") (Or.inl (hw _ (List.mem_of_getElem? (i := 109) rfl))) Via.refl e119 f120 f121 (Or.inr ⟨(hw _ (List.mem_of_getElem? (i := 110) rfl)), rfl, hnm⟩) (hw _ (List.mem_of_getElem? (i := 9) rfl)) (ty := .long) (by decide) rfl rfl (g := (mkF m 40 #[.val (.ref a), .val (.long bg), .second, .val (.ref lv), .val (.int (0 : Int32))] [(.long bg), (.ref a)])) rfl rfl (hb hby own_d0_40)
  have Fw122 := f120.same W122
  have N122 := Fr.snoc X122 N119 G2
  have O122 := O119.wr W122 G2
  have K122 := K119.wr W122 (Or.inl (by simp))
  refine own_go (B := T122.setTop (mkF m 43 #[.val (.ref a), .val (.long bg), .second, .val (.ref lv), .val (.int (0 : Int32))] [])) (fun t k => st122 _ k) ?_
  refine own_go (B := T122.setTop (mkF m 44 #[.val (.ref a), .val (.long bg), .second, .val (.ref lv), .val (.int (0 : Int32))] [(.ref a)])) (fun t k => XS.aloadN X122.here hx rfl (hb hby own_d0_43) rfl rfl k) ?_
  refine own_go (B := T122.setTop (mkF m 45 #[.val (.ref a), .val (.long bg), .second, .val (.ref lv), .val (.int (0 : Int32))] [(.ref lv), (.ref a)])) (fun t k => XS.aloadN X122.here hx rfl (hb hby own_d0_44) rfl rfl k) ?_
  have f123 := (((((((((F8.ext E93).keep Kc96 (ninS (Nat.ne_of_lt (Nat.lt_of_lt_of_le lt_a_93 (Nat.le_of_eq g93.symm))) nin0)).other W99 (Or.inr (slot_ne (Or.inr (hw _ (List.mem_of_getElem? (i := 112) rfl))) (Or.inr (hw _ (List.mem_of_getElem? (i := 75) rfl))) (by decide) (t := (.object "com/example/interleave/interleave/sql/IsolationLevel")) (t' := (.object "com/example/interleave/interleave/engine/UndoLog")) (by decide) (by decide)))).ext E100).keep Kc110 (ninS (Nat.ne_of_lt (Nat.lt_of_lt_of_le lt_a_100 (Nat.le_of_eq g100.symm))) nin0)).other W113 (Or.inr (slot_ne (Or.inr (hw _ (List.mem_of_getElem? (i := 112) rfl))) (Or.inr (hw _ (List.mem_of_getElem? (i := 103) rfl))) (by decide) (t := (.object "com/example/interleave/interleave/sql/IsolationLevel")) (t' := (.object "java/util/Map")) (by decide) (by decide)))).other W116 (Or.inr (slot_ne (Or.inr (hw _ (List.mem_of_getElem? (i := 112) rfl))) (Or.inl (hw _ (List.mem_of_getElem? (i := 106) rfl))) (by decide) (t := (.object "com/example/interleave/interleave/sql/IsolationLevel")) (t' := .long) (by decide) (by decide)))).other W119 (Or.inr (slot_ne (Or.inr (hw _ (List.mem_of_getElem? (i := 112) rfl))) (Or.inl (hw _ (List.mem_of_getElem? (i := 108) rfl))) (by decide) (t := (.object "com/example/interleave/interleave/sql/IsolationLevel")) (t' := .long) (by decide) (by decide)))).other W122 (Or.inr (slot_ne (Or.inr (hw _ (List.mem_of_getElem? (i := 112) rfl))) (Or.inr (hw _ (List.mem_of_getElem? (i := 110) rfl))) (by decide) (t := (.object "com/example/interleave/interleave/sql/IsolationLevel")) (t' := .long) (by decide) (by decide))))
  have f124 := (f121.wr W122)
  obtain ⟨T125, h125, X125, e125, W125, st125⟩ := putF X122 hx hZ hown (host := "") (Or.inl (hw _ (List.mem_of_getElem? (i := 111) rfl))) Via.refl e122 f123 f124 (Or.inr ⟨(hw _ (List.mem_of_getElem? (i := 112) rfl)), rfl, hnm⟩) (hw _ (List.mem_of_getElem? (i := 9) rfl)) (ty := (.object "com/example/interleave/interleave/sql/IsolationLevel")) (by decide) rfl rfl (g := (mkF m 45 #[.val (.ref a), .val (.long bg), .second, .val (.ref lv), .val (.int (0 : Int32))] [(.ref lv), (.ref a)])) rfl rfl (hb hby own_d0_45)
  have Fw125 := f123.same W125
  have N125 := Fr.snoc X125 N122 G2
  have O125 := O122.wr W125 G2
  have K125 := K122.wr W125 (Or.inl (by simp))
  refine own_go (B := T125.setTop (mkF m 48 #[.val (.ref a), .val (.long bg), .second, .val (.ref lv), .val (.int (0 : Int32))] [])) (fun t k => st125 _ k) ?_
  refine own_go (B := T125.setTop (mkF m 49 #[.val (.ref a), .val (.long bg), .second, .val (.ref lv), .val (.int (0 : Int32))] [(.ref a)])) (fun t k => XS.aloadN X125.here hx rfl (hb hby own_d0_48) rfl rfl k) ?_
  refine own_go (B := T125.setTop (mkF m 51 #[.val (.ref a), .val (.long bg), .second, .val (.ref lv), .val (.int (0 : Int32))] [(.int (0 : Int32)), (.ref a)])) (fun t k => XS.iload X125.here hx rfl (hb hby own_d0_49) rfl k) ?_
  have f126 := ((((((((((F9.ext E93).keep Kc96 (ninS (Nat.ne_of_lt (Nat.lt_of_lt_of_le lt_a_93 (Nat.le_of_eq g93.symm))) nin0)).other W99 (Or.inr (slot_ne (Or.inr (hw _ (List.mem_of_getElem? (i := 114) rfl))) (Or.inr (hw _ (List.mem_of_getElem? (i := 75) rfl))) (by decide) (t := .boolean) (t' := (.object "com/example/interleave/interleave/engine/UndoLog")) (by decide) (by decide)))).ext E100).keep Kc110 (ninS (Nat.ne_of_lt (Nat.lt_of_lt_of_le lt_a_100 (Nat.le_of_eq g100.symm))) nin0)).other W113 (Or.inr (slot_ne (Or.inr (hw _ (List.mem_of_getElem? (i := 114) rfl))) (Or.inr (hw _ (List.mem_of_getElem? (i := 103) rfl))) (by decide) (t := .boolean) (t' := (.object "java/util/Map")) (by decide) (by decide)))).other W116 (Or.inr (slot_ne (Or.inr (hw _ (List.mem_of_getElem? (i := 114) rfl))) (Or.inl (hw _ (List.mem_of_getElem? (i := 106) rfl))) (by decide) (t := .boolean) (t' := .long) (by decide) (by decide)))).other W119 (Or.inr (slot_ne (Or.inr (hw _ (List.mem_of_getElem? (i := 114) rfl))) (Or.inl (hw _ (List.mem_of_getElem? (i := 108) rfl))) (by decide) (t := .boolean) (t' := .long) (by decide) (by decide)))).other W122 (Or.inr (slot_ne (Or.inr (hw _ (List.mem_of_getElem? (i := 114) rfl))) (Or.inr (hw _ (List.mem_of_getElem? (i := 110) rfl))) (by decide) (t := .boolean) (t' := .long) (by decide) (by decide)))).other W125 (Or.inr (slot_ne (Or.inr (hw _ (List.mem_of_getElem? (i := 114) rfl))) (Or.inr (hw _ (List.mem_of_getElem? (i := 112) rfl))) (by decide) (t := .boolean) (t' := (.object "com/example/interleave/interleave/sql/IsolationLevel")) (by decide) (by decide))))
  have f127 := (f124.wr W125)
  obtain ⟨T128, h128, X128, e128, W128, st128⟩ := putFN X125 hx hZ hown (hw _ (List.mem_of_getElem? (i := 113) rfl)) Via.refl e125 f126 f127 (Or.inr ⟨(hw _ (List.mem_of_getElem? (i := 114) rfl)), rfl, hnm⟩) (hw _ (List.mem_of_getElem? (i := 9) rfl)) (ty := .boolean) (v' := (.int (0 : Int32))) (by decide) rfl (by decide) (g := (mkF m 51 #[.val (.ref a), .val (.long bg), .second, .val (.ref lv), .val (.int (0 : Int32))] [(.int (0 : Int32)), (.ref a)])) rfl rfl (hb hby own_d0_51)
  have Fw128 := f126.same W128
  have N128 := Fr.snoc X128 N125 G2
  have O128 := O125.wr W128 G2
  have K128 := K125.wr W128 (Or.inl (by simp))
  refine own_go (B := T128.setTop (mkF m 54 #[.val (.ref a), .val (.long bg), .second, .val (.ref lv), .val (.int (0 : Int32))] [])) (fun t k => st128 _ k) ?_
  obtain ⟨fs, hr, hrun, hended, hW, hsame⟩ := X128.leave (v := none) (fun _ => rfl)
  have f130 := (f127.wr W128)
  have f131 := ((((((((Fw99.ext E100).keep Kc110 (ninS (Nat.ne_of_lt (Nat.lt_of_lt_of_le lt_a_100 (Nat.le_of_eq g100.symm))) nin0)).other W113 (Or.inr (slot_ne (Or.inr (hw _ (List.mem_of_getElem? (i := 75) rfl))) (Or.inr (hw _ (List.mem_of_getElem? (i := 103) rfl))) (by decide) (t := (.object "com/example/interleave/interleave/engine/UndoLog")) (t' := (.object "java/util/Map")) (by decide) (by decide)))).other W116 (Or.inr (slot_ne (Or.inr (hw _ (List.mem_of_getElem? (i := 75) rfl))) (Or.inl (hw _ (List.mem_of_getElem? (i := 106) rfl))) (by decide) (t := (.object "com/example/interleave/interleave/engine/UndoLog")) (t' := .long) (by decide) (by decide)))).other W119 (Or.inr (slot_ne (Or.inr (hw _ (List.mem_of_getElem? (i := 75) rfl))) (Or.inl (hw _ (List.mem_of_getElem? (i := 108) rfl))) (by decide) (t := (.object "com/example/interleave/interleave/engine/UndoLog")) (t' := .long) (by decide) (by decide)))).other W122 (Or.inr (slot_ne (Or.inr (hw _ (List.mem_of_getElem? (i := 75) rfl))) (Or.inr (hw _ (List.mem_of_getElem? (i := 110) rfl))) (by decide) (t := (.object "com/example/interleave/interleave/engine/UndoLog")) (t' := .long) (by decide) (by decide)))).other W125 (Or.inr (slot_ne (Or.inr (hw _ (List.mem_of_getElem? (i := 75) rfl))) (Or.inr (hw _ (List.mem_of_getElem? (i := 112) rfl))) (by decide) (t := (.object "com/example/interleave/interleave/engine/UndoLog")) (t' := (.object "com/example/interleave/interleave/sql/IsolationLevel")) (by decide) (by decide)))).other W128 (Or.inr (slot_ne (Or.inr (hw _ (List.mem_of_getElem? (i := 75) rfl))) (Or.inr (hw _ (List.mem_of_getElem? (i := 114) rfl))) (by decide) (t := (.object "com/example/interleave/interleave/engine/UndoLog")) (t' := .boolean) (by decide) (by decide))))
  have f132 := (((((Fw113.other W116 (Or.inr (slot_ne (Or.inr (hw _ (List.mem_of_getElem? (i := 103) rfl))) (Or.inl (hw _ (List.mem_of_getElem? (i := 106) rfl))) (by decide) (t := (.object "java/util/Map")) (t' := .long) (by decide) (by decide)))).other W119 (Or.inr (slot_ne (Or.inr (hw _ (List.mem_of_getElem? (i := 103) rfl))) (Or.inl (hw _ (List.mem_of_getElem? (i := 108) rfl))) (by decide) (t := (.object "java/util/Map")) (t' := .long) (by decide) (by decide)))).other W122 (Or.inr (slot_ne (Or.inr (hw _ (List.mem_of_getElem? (i := 103) rfl))) (Or.inr (hw _ (List.mem_of_getElem? (i := 110) rfl))) (by decide) (t := (.object "java/util/Map")) (t' := .long) (by decide) (by decide)))).other W125 (Or.inr (slot_ne (Or.inr (hw _ (List.mem_of_getElem? (i := 103) rfl))) (Or.inr (hw _ (List.mem_of_getElem? (i := 112) rfl))) (by decide) (t := (.object "java/util/Map")) (t' := (.object "com/example/interleave/interleave/sql/IsolationLevel")) (by decide) (by decide)))).other W128 (Or.inr (slot_ne (Or.inr (hw _ (List.mem_of_getElem? (i := 103) rfl))) (Or.inr (hw _ (List.mem_of_getElem? (i := 114) rfl))) (by decide) (t := (.object "java/util/Map")) (t' := .boolean) (by decide) (by decide))))
  have f133 := (((Fw119.other W122 (Or.inr (slot_ne (Or.inl (hw _ (List.mem_of_getElem? (i := 108) rfl))) (Or.inr (hw _ (List.mem_of_getElem? (i := 110) rfl))) (by decide) (t := .long) (t' := .long) (by decide) (by decide)))).other W125 (Or.inr (slot_ne (Or.inl (hw _ (List.mem_of_getElem? (i := 108) rfl))) (Or.inr (hw _ (List.mem_of_getElem? (i := 112) rfl))) (by decide) (t := .long) (t' := (.object "com/example/interleave/interleave/sql/IsolationLevel")) (by decide) (by decide)))).other W128 (Or.inr (slot_ne (Or.inl (hw _ (List.mem_of_getElem? (i := 108) rfl))) (Or.inr (hw _ (List.mem_of_getElem? (i := 114) rfl))) (by decide) (t := .long) (t' := .boolean) (by decide) (by decide))))
  have f134 := (((((((f107.keep Kc110).wr W113).wr W116).wr W119).wr W122).wr W125).wr W128)
  have f135 := (((((((((Q96_3.other W99 (Or.inl (Ne.symm (Nat.ne_of_lt (Nat.lt_of_lt_of_le lt_a_93 (Nat.le_of_eq g93.symm)))))).ext E100).keep Kc110 (ninS (Nat.ne_of_lt (Nat.lt_of_lt_of_le lt_b93_100 (Nat.le_of_eq g100.symm))) nin0)).other W113 (Or.inl (Ne.symm (Nat.ne_of_lt (Nat.lt_of_lt_of_le lt_a_93 (Nat.le_of_eq g93.symm)))))).other W116 (Or.inl (Ne.symm (Nat.ne_of_lt (Nat.lt_of_lt_of_le lt_a_93 (Nat.le_of_eq g93.symm)))))).other W119 (Or.inl (Ne.symm (Nat.ne_of_lt (Nat.lt_of_lt_of_le lt_a_93 (Nat.le_of_eq g93.symm)))))).other W122 (Or.inl (Ne.symm (Nat.ne_of_lt (Nat.lt_of_lt_of_le lt_a_93 (Nat.le_of_eq g93.symm)))))).other W125 (Or.inl (Ne.symm (Nat.ne_of_lt (Nat.lt_of_lt_of_le lt_a_93 (Nat.le_of_eq g93.symm)))))).other W128 (Or.inl (Ne.symm (Nat.ne_of_lt (Nat.lt_of_lt_of_le lt_a_93 (Nat.le_of_eq g93.symm))))))
  have f136 := (((((((((Q96_4.other W99 (Or.inl (Ne.symm (Nat.ne_of_lt (Nat.lt_of_lt_of_le lt_a_93 (Nat.le_of_eq g93.symm)))))).ext E100).keep Kc110 (ninS (Nat.ne_of_lt (Nat.lt_of_lt_of_le lt_b93_100 (Nat.le_of_eq g100.symm))) nin0)).other W113 (Or.inl (Ne.symm (Nat.ne_of_lt (Nat.lt_of_lt_of_le lt_a_93 (Nat.le_of_eq g93.symm)))))).other W116 (Or.inl (Ne.symm (Nat.ne_of_lt (Nat.lt_of_lt_of_le lt_a_93 (Nat.le_of_eq g93.symm)))))).other W119 (Or.inl (Ne.symm (Nat.ne_of_lt (Nat.lt_of_lt_of_le lt_a_93 (Nat.le_of_eq g93.symm)))))).other W122 (Or.inl (Ne.symm (Nat.ne_of_lt (Nat.lt_of_lt_of_le lt_a_93 (Nat.le_of_eq g93.symm)))))).other W125 (Or.inl (Ne.symm (Nat.ne_of_lt (Nat.lt_of_lt_of_le lt_a_93 (Nat.le_of_eq g93.symm)))))).other W128 (Or.inl (Ne.symm (Nat.ne_of_lt (Nat.lt_of_lt_of_le lt_a_93 (Nat.le_of_eq g93.symm))))))
  have f137 := (((((((f108.keep Kc110).wr W113).wr W116).wr W119).wr W122).wr W125).wr W128)
  have f138 := (((((((((Q96_6.other W99 (Or.inl (Ne.symm (Nat.ne_of_lt (Nat.lt_of_lt_of_le lt_a_94 Q96_0))))).ext E100).keep Kc110 (ninS (Nat.ne_of_lt (Nat.lt_of_lt_of_le lt_en_96_100 (Nat.le_of_eq g100.symm))) nin0)).other W113 (Or.inl (Ne.symm (Nat.ne_of_lt (Nat.lt_of_lt_of_le lt_a_94 Q96_0))))).other W116 (Or.inl (Ne.symm (Nat.ne_of_lt (Nat.lt_of_lt_of_le lt_a_94 Q96_0))))).other W119 (Or.inl (Ne.symm (Nat.ne_of_lt (Nat.lt_of_lt_of_le lt_a_94 Q96_0))))).other W122 (Or.inl (Ne.symm (Nat.ne_of_lt (Nat.lt_of_lt_of_le lt_a_94 Q96_0))))).other W125 (Or.inl (Ne.symm (Nat.ne_of_lt (Nat.lt_of_lt_of_le lt_a_94 Q96_0))))).other W128 (Or.inl (Ne.symm (Nat.ne_of_lt (Nat.lt_of_lt_of_le lt_a_94 Q96_0)))))
  have f139 := (((((((((Q96_7.other W99 (Or.inl (Ne.symm (Nat.ne_of_lt (Nat.lt_of_lt_of_le lt_a_94 Q96_0))))).ext E100).keep Kc110 (ninS (Nat.ne_of_lt (Nat.lt_of_lt_of_le lt_en_96_100 (Nat.le_of_eq g100.symm))) nin0)).other W113 (Or.inl (Ne.symm (Nat.ne_of_lt (Nat.lt_of_lt_of_le lt_a_94 Q96_0))))).other W116 (Or.inl (Ne.symm (Nat.ne_of_lt (Nat.lt_of_lt_of_le lt_a_94 Q96_0))))).other W119 (Or.inl (Ne.symm (Nat.ne_of_lt (Nat.lt_of_lt_of_le lt_a_94 Q96_0))))).other W122 (Or.inl (Ne.symm (Nat.ne_of_lt (Nat.lt_of_lt_of_le lt_a_94 Q96_0))))).other W125 (Or.inl (Ne.symm (Nat.ne_of_lt (Nat.lt_of_lt_of_le lt_a_94 Q96_0))))).other W128 (Or.inl (Ne.symm (Nat.ne_of_lt (Nat.lt_of_lt_of_le lt_a_94 Q96_0)))))
  have f140 := (((((((((Q96_8.other W99 (Or.inl (Ne.symm (Nat.ne_of_lt (Nat.lt_of_lt_of_le lt_a_94 Q96_0))))).ext E100).keep Kc110 (ninS (Nat.ne_of_lt (Nat.lt_of_lt_of_le lt_en_96_100 (Nat.le_of_eq g100.symm))) nin0)).other W113 (Or.inl (Ne.symm (Nat.ne_of_lt (Nat.lt_of_lt_of_le lt_a_94 Q96_0))))).other W116 (Or.inl (Ne.symm (Nat.ne_of_lt (Nat.lt_of_lt_of_le lt_a_94 Q96_0))))).other W119 (Or.inl (Ne.symm (Nat.ne_of_lt (Nat.lt_of_lt_of_le lt_a_94 Q96_0))))).other W122 (Or.inl (Ne.symm (Nat.ne_of_lt (Nat.lt_of_lt_of_le lt_a_94 Q96_0))))).other W125 (Or.inl (Ne.symm (Nat.ne_of_lt (Nat.lt_of_lt_of_le lt_a_94 Q96_0))))).other W128 (Or.inl (Ne.symm (Nat.ne_of_lt (Nat.lt_of_lt_of_le lt_a_94 Q96_0)))))
  have f141 := (((((((f109.keep Kc110).wr W113).wr W116).wr W119).wr W122).wr W125).wr W128)
  have f142 := (((((((((Q96_10.other W99 (Or.inl (Ne.symm (Nat.ne_of_lt (Nat.lt_of_lt_of_le lt_a_94 Q96_1))))).ext E100).keep Kc110 (ninS (Nat.ne_of_lt (Nat.lt_of_lt_of_le lt_ch_96_100 (Nat.le_of_eq g100.symm))) nin0)).other W113 (Or.inl (Ne.symm (Nat.ne_of_lt (Nat.lt_of_lt_of_le lt_a_94 Q96_1))))).other W116 (Or.inl (Ne.symm (Nat.ne_of_lt (Nat.lt_of_lt_of_le lt_a_94 Q96_1))))).other W119 (Or.inl (Ne.symm (Nat.ne_of_lt (Nat.lt_of_lt_of_le lt_a_94 Q96_1))))).other W122 (Or.inl (Ne.symm (Nat.ne_of_lt (Nat.lt_of_lt_of_le lt_a_94 Q96_1))))).other W125 (Or.inl (Ne.symm (Nat.ne_of_lt (Nat.lt_of_lt_of_le lt_a_94 Q96_1))))).other W128 (Or.inl (Ne.symm (Nat.ne_of_lt (Nat.lt_of_lt_of_le lt_a_94 Q96_1)))))
  have f143 := ((((((Q110_0.wr W113).wr W116).wr W119).wr W122).wr W125).wr W128)
  have f144 := ((((((Q110_1.other W113 (Or.inl (Ne.symm (Nat.ne_of_lt (Nat.lt_of_lt_of_le lt_a_100 (Nat.le_of_eq g100.symm)))))).other W116 (Or.inl (Ne.symm (Nat.ne_of_lt (Nat.lt_of_lt_of_le lt_a_100 (Nat.le_of_eq g100.symm)))))).other W119 (Or.inl (Ne.symm (Nat.ne_of_lt (Nat.lt_of_lt_of_le lt_a_100 (Nat.le_of_eq g100.symm)))))).other W122 (Or.inl (Ne.symm (Nat.ne_of_lt (Nat.lt_of_lt_of_le lt_a_100 (Nat.le_of_eq g100.symm)))))).other W125 (Or.inl (Ne.symm (Nat.ne_of_lt (Nat.lt_of_lt_of_le lt_a_100 (Nat.le_of_eq g100.symm)))))).other W128 (Or.inl (Ne.symm (Nat.ne_of_lt (Nat.lt_of_lt_of_le lt_a_100 (Nat.le_of_eq g100.symm))))))
  have f145 := ((((((Q110_2.other W113 (Or.inl (Ne.symm (Nat.ne_of_lt (Nat.lt_of_lt_of_le lt_a_100 (Nat.le_of_eq g100.symm)))))).other W116 (Or.inl (Ne.symm (Nat.ne_of_lt (Nat.lt_of_lt_of_le lt_a_100 (Nat.le_of_eq g100.symm)))))).other W119 (Or.inl (Ne.symm (Nat.ne_of_lt (Nat.lt_of_lt_of_le lt_a_100 (Nat.le_of_eq g100.symm)))))).other W122 (Or.inl (Ne.symm (Nat.ne_of_lt (Nat.lt_of_lt_of_le lt_a_100 (Nat.le_of_eq g100.symm)))))).other W125 (Or.inl (Ne.symm (Nat.ne_of_lt (Nat.lt_of_lt_of_le lt_a_100 (Nat.le_of_eq g100.symm)))))).other W128 (Or.inl (Ne.symm (Nat.ne_of_lt (Nat.lt_of_lt_of_le lt_a_100 (Nat.le_of_eq g100.symm))))))
  have f146 := ((((((Q110_3.other W113 (Or.inl (Ne.symm (Nat.ne_of_lt (Nat.lt_of_lt_of_le lt_a_100 (Nat.le_of_eq g100.symm)))))).other W116 (Or.inl (Ne.symm (Nat.ne_of_lt (Nat.lt_of_lt_of_le lt_a_100 (Nat.le_of_eq g100.symm)))))).other W119 (Or.inl (Ne.symm (Nat.ne_of_lt (Nat.lt_of_lt_of_le lt_a_100 (Nat.le_of_eq g100.symm)))))).other W122 (Or.inl (Ne.symm (Nat.ne_of_lt (Nat.lt_of_lt_of_le lt_a_100 (Nat.le_of_eq g100.symm)))))).other W125 (Or.inl (Ne.symm (Nat.ne_of_lt (Nat.lt_of_lt_of_le lt_a_100 (Nat.le_of_eq g100.symm)))))).other W128 (Or.inl (Ne.symm (Nat.ne_of_lt (Nat.lt_of_lt_of_le lt_a_100 (Nat.le_of_eq g100.symm))))))
  have f147 := ((((((Q110_4.other W113 (Or.inl (Ne.symm (Nat.ne_of_lt (Nat.lt_of_lt_of_le lt_a_100 (Nat.le_of_eq g100.symm)))))).other W116 (Or.inl (Ne.symm (Nat.ne_of_lt (Nat.lt_of_lt_of_le lt_a_100 (Nat.le_of_eq g100.symm)))))).other W119 (Or.inl (Ne.symm (Nat.ne_of_lt (Nat.lt_of_lt_of_le lt_a_100 (Nat.le_of_eq g100.symm)))))).other W122 (Or.inl (Ne.symm (Nat.ne_of_lt (Nat.lt_of_lt_of_le lt_a_100 (Nat.le_of_eq g100.symm)))))).other W125 (Or.inl (Ne.symm (Nat.ne_of_lt (Nat.lt_of_lt_of_le lt_a_100 (Nat.le_of_eq g100.symm)))))).other W128 (Or.inl (Ne.symm (Nat.ne_of_lt (Nat.lt_of_lt_of_le lt_a_100 (Nat.le_of_eq g100.symm))))))
  refine ⟨_, _, X128.returnOut hx Bd.returns (hb hby own_d0_54) hr, hK _ _ ⟨hrun, hended, _, _, rfl, ?_, ⟨_, rfl⟩, hW, hsame.mono (by decide) (by decide)⟩⟩
  show own_Q_tr0 Z a lv w_DEF bg h0 n0 _ T128.heap _
  rw [e128]
  exact ⟨b93, b100, en_96, ch_96, rfl, N128, K128, sz_b93, sz_b100, sz_en_96, sz_ch_96, f130, f131, f132, f133, f134, f135, f136, f137, f138, f139, f140, f141, f142, f143, f144, f145, f146, f147⟩
theorem own_ef_tr1 (m : MethodId) (x0 : Addr) (x1 : Int64) (x2 : Addr) (x3 : Int32)  : entryFrame m #[(.ref x0), (.long x1), (.ref x2), (.int x3)] 5 = mkF m 0 #[.val (.ref x0), .val (.long x1), .second, .val (.ref x2), .val (.int x3)] [] := by first | (simp [entryFrame, mkF, argsToLocals, Value.category]; done) | rfl
def own_Q_tr1 (Z : State) (a lv w_DEF : Addr) (bg : Int64) (h0 : Heap) (n0 : Nat) (v : Option Value) (h : Heap) (L : List Loc) : Prop := ∃ un wr en ch : Addr, v = none ∧ Fr n0 L ∧ Keep h0 h [a] ∧ h0.size ≤ un ∧ h0.size ≤ wr ∧ h0.size ≤ en ∧ h0.size ≤ ch ∧ Exa Z h a "com/example/interleave/interleave/engine/Transaction" ∧ Fld Z h a "com/example/interleave/interleave/engine/Transaction" "undo" "Lcom/example/interleave/interleave/engine/UndoLog;" (.ref un) ∧ Fld Z h a "com/example/interleave/interleave/engine/Transaction" "written" "Ljava/util/Map;" (.ref wr) ∧ Fld Z h a "com/example/interleave/interleave/engine/Transaction" "commitNumber" "J" (.long (0 : Int64)) ∧ Exa Z h un "com/example/interleave/interleave/engine/UndoLog" ∧ Fld Z h un "com/example/interleave/interleave/engine/UndoLog" "entries" "Ljava/util/List;" (.ref en) ∧ Fld Z h un "com/example/interleave/interleave/engine/UndoLog" "changes" "Ljava/util/BitSet;" (.ref ch) ∧ Exa Z h en "java/util/ArrayList" ∧ Fld Z h en "java/util/AbstractList" "modCount" "I" (.int (0 : Int32)) ∧ Fld Z h en "java/util/ArrayList" "elementData" "[Ljava/lang/Object;" (.ref w_DEF) ∧ Fld Z h en "java/util/ArrayList" "size" "I" (.int (0 : Int32)) ∧ Exa Z h ch "java/util/BitSet" ∧ Fld Z h ch "java/util/BitSet" "wordsInUse" "I" (.int (0 : Int32)) ∧ Exa Z h wr "java/util/LinkedHashMap" ∧ Fld Z h wr "java/util/HashMap" "modCount" "I" (.int (0 : Int32)) ∧ Fld Z h wr "java/util/HashMap" "table" "[Ljava/util/HashMap$Node;" .null ∧ Fld Z h wr "java/util/LinkedHashMap" "head" "Ljava/util/LinkedHashMap$Entry;" .null ∧ Fld Z h wr "java/util/LinkedHashMap" "tail" "Ljava/util/LinkedHashMap$Entry;" .null
set_option maxRecDepth 65536 in
set_option maxHeartbeats 40000000 in
theorem own_rm_tr1 (l : Launch) (Z : State) (a0 : Array Value) (hw : ∀ d ∈ tables_1, d.before a0 Z = true) (ws : List Jvm.Cond) (a lv w_DEF : Addr) (bg : Int64) (h0 : Heap) (n0 : Nat) (O0 : Old Z n0 h0) (S_DEF : Sta Z Z.heap "java/util/ArrayList" "DEFAULTCAPACITY_EMPTY_ELEMENTDATA" "[Ljava/lang/Object;" (.ref w_DEF)) (E1 : Exa Z h0 a "com/example/interleave/interleave/engine/Transaction") (G2 : n0 ≤ a) (F3 : Fld Z h0 a "com/example/interleave/interleave/engine/Transaction" "undo" "Lcom/example/interleave/interleave/engine/UndoLog;" .null) (F4 : Fld Z h0 a "com/example/interleave/interleave/engine/Transaction" "written" "Ljava/util/Map;" .null) (F5 : Fld Z h0 a "com/example/interleave/interleave/engine/Transaction" "snapshot" "J" (.long (0 : Int64))) (F6 : Fld Z h0 a "com/example/interleave/interleave/engine/Transaction" "commitNumber" "J" (.long (0 : Int64))) (F7 : Fld Z h0 a "com/example/interleave/interleave/engine/Transaction" "beginNumber" "J" (.long (0 : Int64))) (F8 : Fld Z h0 a "com/example/interleave/interleave/engine/Transaction" "level" "Lcom/example/interleave/interleave/sql/IsolationLevel;" .null) (F9 : Fld Z h0 a "com/example/interleave/interleave/engine/Transaction" "autocommit" "Z" (.int (0 : Int32))) :
    MetFree l (⟨"com/example/interleave/interleave/engine/Transaction", "<init>", "(JLcom/example/interleave/interleave/sql/IsolationLevel;Z)V"⟩ : MethodName) (head1 (Jvm.Cond.code (⟨"com/example/interleave/interleave/engine/Transaction", "<init>", "(JLcom/example/interleave/interleave/sql/IsolationLevel;Z)V"⟩ : MethodName) prog_55_method_1_code 5 none :: ws) ({ frames := 5, cells := 5, slots := 21, locals := 64 } : Room)) (fun ar9 U => ar9 = #[(.ref a), (.long bg), (.ref lv), (.int (1 : Int32))] ∧ Z.Warmed39 U.vm ∧ U.heap = h0) (fun _ _ _ _ _ => True) (fun _ U o U' => ∃ v L, o = .returned v ∧ own_Q_tr1 Z a lv w_DEF bg h0 n0 v U'.heap L ∧ FrameEnd U o U' L ({ frames := 5, cells := 5, slots := 21, locals := 64 } : Room).cells ({ frames := 5, cells := 5, slots := 21, locals := 64 } : Room).slots) := by
  refine MetFree.of_bodySF (plainFor_of_name own_pn_8) hisR ?_
  intro p e s m args below meth c s₁ Bd hml0 hP hK0
  obtain ⟨rfl, hZ, hh⟩ := hP
  have hx := Bd.exec
  have hby := Bd.bytes
  have hml : c.maxLocals = 5 := hml0
  have hown : s.vm.findClass "com/example/interleave/interleave/engine/Transaction" = some m.cls := findClass_of_methodNamed Bd.named
  have hnm := (name_of_methodNamed Bd.named Bd.method).1
  have X0 : Stand p l e ({ frames := 5, cells := 5, slots := 21, locals := 64 } : Room) s m #[(.ref a), (.long bg), (.ref lv), (.int (1 : Int32))] below meth c s₁ [] 0 0 := Stand.of_body Bd
  have e0 : s₁.heap = h0 := by rw [← hh, Bd.state]; rfl
  have N0 := Fr.nil n0
  have K0 := Keep.refl h0 [a]
  refine own_open fun K hK => ?_
  refine own_go (B := s₁.setTop (mkF m 0 #[.val (.ref a), .val (.long bg), .second, .val (.ref lv), .val (.int (1 : Int32))] [])) (fun t k => castTop (own_ef_tr1 m a bg lv (1 : Int32)) k) ?_
  refine own_go (B := s₁.setTop (mkF m 1 #[.val (.ref a), .val (.long bg), .second, .val (.ref lv), .val (.int (1 : Int32))] [(.ref a)])) (fun t k => XS.aloadN X0.here hx rfl (hb hby own_d0_0) rfl rfl k) ?_
  obtain ⟨T148, X148, e148, st148⟩ := initO X0 hx hZ hown (hw _ (List.mem_of_getElem? (i := 14) rfl)) (hw _ (List.mem_of_getElem? (i := 15) rfl)) (hw _ (List.mem_of_getElem? (i := 16) rfl)) e0 (g := (mkF m 1 #[.val (.ref a), .val (.long bg), .second, .val (.ref lv), .val (.int (1 : Int32))] [(.ref a)])) rfl (by rw [hml]; rfl) rfl (hb hby own_d0_1) (by decide) (W := 0) (by show 2 * 0 + _ ≤ _; exact Nat.le_of_eq rfl) (by decide)
  refine own_go (B := T148.setTop (mkF m 4 #[.val (.ref a), .val (.long bg), .second, .val (.ref lv), .val (.int (1 : Int32))] [])) (fun t k => st148 _ k) ?_
  refine own_go (B := T148.setTop (mkF m 5 #[.val (.ref a), .val (.long bg), .second, .val (.ref lv), .val (.int (1 : Int32))] [(.ref a)])) (fun t k => XS.aloadN X148.here hx rfl (hb hby own_d0_4) rfl rfl k) ?_
  obtain ⟨T149, h149, X149, e149, E149, A149, D149, -, st149⟩ := newO X148 hx hZ hown (hw _ (List.mem_of_getElem? (i := 17) rfl)) (hw _ (List.mem_of_getElem? (i := 18) rfl)) (hw _ (List.mem_of_getElem? (i := 19) rfl)) e148 (g := (mkF m 5 #[.val (.ref a), .val (.long bg), .second, .val (.ref lv), .val (.int (1 : Int32))] [(.ref a)])) rfl (hb hby own_d0_5) (by decide) (by decide)
  obtain ⟨b149, g149⟩ : ∃ z, z = h0.size := ⟨_, rfl⟩
  rw [← g149] at A149 D149 st149
  have lt_a_149 := E1.lt
  have g_b149 : n0 ≤ b149 := Nat.le_trans (own_n0 O0) (Nat.le_of_eq g149.symm)
  have O149 := O0.ext E149
  have sz_b149 : h0.size ≤ b149 := Nat.le_trans K0.1 (Nat.le_of_eq g149.symm)
  have K149 := K0.ext E149
  have F149_49 : Fld Z h149 b149 "com/example/interleave/interleave/engine/UndoLog" "entries" "Ljava/util/List;" .null := D149 (Or.inr (hw _ (List.mem_of_getElem? (i := 49) rfl))) (ty := (.object "java/util/List")) (by decide)
  have F149_73 : Fld Z h149 b149 "com/example/interleave/interleave/engine/UndoLog" "changes" "Ljava/util/BitSet;" .null := D149 (Or.inr (hw _ (List.mem_of_getElem? (i := 73) rfl))) (ty := (.object "java/util/BitSet")) (by decide)
  refine own_go (B := T149.setTop (mkF m 8 #[.val (.ref a), .val (.long bg), .second, .val (.ref lv), .val (.int (1 : Int32))] [(.ref b149), (.ref a)])) (fun t k => st149 _ k) ?_
  refine own_go (B := T149.setTop (mkF m 9 #[.val (.ref a), .val (.long bg), .second, .val (.ref lv), .val (.int (1 : Int32))] [(.ref b149), (.ref b149), (.ref a)])) (fun t k => XS.dup X149.here hx rfl (hb hby own_d0_8) rfl rfl k) ?_
  have f151 := (E1.ext E149)
  have lt_a_150 := f151.lt
  have lt_b149_150 := A149.lt
  obtain ⟨_, _, ⟨T152, L152, k152, n152⟩, -, X152, ⟨Lc152, hQ152, l152, y152, z152⟩, st152⟩ := X149.specialBack hx (y := (⟨"com/example/interleave/interleave/engine/UndoLog", "<init>", "()V"⟩ : MethodName)) rfl hown (mvT hZ (hw _ (List.mem_of_getElem? (i := 20) rfl))) (mvT hZ (hw _ (List.mem_of_getElem? (i := 21) rfl))) (mvT hZ (hw _ (List.mem_of_getElem? (i := 22) rfl))) (by decide) (backOf (W := 2) (own_rm_ul l Z a0 hw [] b149 w_DEF h149 n0 O149 S_DEF A149 g_b149 F149_49 F149_73) hZ (hw _ (List.mem_of_getElem? (i := 22) rfl)) (hw _ (List.mem_of_getElem? (i := 19) rfl)) (by decide) (by decide)) (g := (mkF m 9 #[.val (.ref a), .val (.long bg), .second, .val (.ref lv), .val (.int (1 : Int32))] [(.ref b149), (.ref b149), (.ref a)])) rfl (by rw [hml]; rfl) (Steps.refl _) (a := b149) (argsL := []) (rest := [(.ref b149), (.ref a)]) (lenOf own_pd_0 rfl) rfl (by show 2 * 0 + _ ≤ _; exact Nat.le_of_eq rfl) (hb hby own_d0_9) (fun _ _ => ⟨rfl, e149, (by decide : 1 + 3 ≤ _), (by decide : 2 + 7 ≤ _)⟩)
  dsimp only [Pt.U, Pt.locs, Pt.cells, Pt.slots] at X152 l152 y152 z152 st152 hQ152
  subst l152 y152 z152
  obtain ⟨en_152, ch_152, rfl, N152q, Kc152, Q152_0, Q152_1, Q152_2, Q152_3, Q152_4, Q152_5, Q152_6, Q152_7, Q152_8, Q152_9, Q152_10⟩ := hQ152
  have O152 := O149.keep Kc152 (allS g_b149 all0)
  have K152 := K149.trans Kc152 (allS (Or.inr sz_b149) all0)
  have N152 := Fr.app N0 N152q
  refine own_go (B := T152.setTop (mkF m 12 #[.val (.ref a), .val (.long bg), .second, .val (.ref lv), .val (.int (1 : Int32))] [(.ref b149), (.ref a)])) (fun t k => st152.trans k) ?_
  have g_en_152 : n0 ≤ en_152 := Nat.le_trans (own_n0 O149) Q152_0
  have sz_en_152 : h0.size ≤ en_152 := Nat.le_trans K149.1 Q152_0
  have g_ch_152 : n0 ≤ ch_152 := Nat.le_trans (own_n0 O149) Q152_1
  have sz_ch_152 : h0.size ≤ ch_152 := Nat.le_trans K149.1 Q152_1
  have f153 := ((F3.ext E149).keep Kc152 (ninS (Nat.ne_of_lt (Nat.lt_of_lt_of_le lt_a_149 (Nat.le_of_eq g149.symm))) nin0))
  have f154 := (f151.keep Kc152)
  obtain ⟨T155, h155, X155, e155, W155, st155⟩ := putF X152 hx hZ hown (host := "") (Or.inl (hw _ (List.mem_of_getElem? (i := 74) rfl))) Via.refl (rfl : T152.heap = T152.heap) f153 f154 (Or.inr ⟨(hw _ (List.mem_of_getElem? (i := 75) rfl)), rfl, hnm⟩) (hw _ (List.mem_of_getElem? (i := 9) rfl)) (ty := (.object "com/example/interleave/interleave/engine/UndoLog")) (by decide) rfl rfl (g := (mkF m 12 #[.val (.ref a), .val (.long bg), .second, .val (.ref lv), .val (.int (1 : Int32))] [(.ref b149), (.ref a)])) rfl rfl (hb hby own_d0_12)
  have Fw155 := f153.same W155
  have N155 := Fr.snoc X155 N152 G2
  have O155 := O152.wr W155 G2
  have K155 := K152.wr W155 (Or.inl (by simp))
  refine own_go (B := T155.setTop (mkF m 15 #[.val (.ref a), .val (.long bg), .second, .val (.ref lv), .val (.int (1 : Int32))] [])) (fun t k => st155 _ k) ?_
  refine own_go (B := T155.setTop (mkF m 16 #[.val (.ref a), .val (.long bg), .second, .val (.ref lv), .val (.int (1 : Int32))] [(.ref a)])) (fun t k => XS.aloadN X155.here hx rfl (hb hby own_d0_15) rfl rfl k) ?_
  obtain ⟨T156, h156, X156, e156, E156, A156, D156, -, st156⟩ := newO X155 hx hZ hown (hw _ (List.mem_of_getElem? (i := 76) rfl)) (hw _ (List.mem_of_getElem? (i := 77) rfl)) (hw _ (List.mem_of_getElem? (i := 78) rfl)) e155 (g := (mkF m 16 #[.val (.ref a), .val (.long bg), .second, .val (.ref lv), .val (.int (1 : Int32))] [(.ref a)])) rfl (hb hby own_d0_16) (by decide) (by decide)
  obtain ⟨b156, g156⟩ : ∃ z, z = h155.size := ⟨_, rfl⟩
  rw [← g156] at A156 D156 st156
  have f157 := (f154.wr W155)
  have lt_a_156 := f157.lt
  have f158 := (Q152_2.wr W155)
  have lt_b149_156 := f158.lt
  have f159 := (Q152_5.wr W155)
  have lt_en_152_156 := f159.lt
  have f160 := (Q152_9.wr W155)
  have lt_ch_152_156 := f160.lt
  have g_b156 : n0 ≤ b156 := Nat.le_trans (own_n0 O155) (Nat.le_of_eq g156.symm)
  have O156 := O155.ext E156
  have sz_b156 : h0.size ≤ b156 := Nat.le_trans K155.1 (Nat.le_of_eq g156.symm)
  have K156 := K155.ext E156
  have F156_97 : Fld Z h156 b156 "java/util/HashMap" "loadFactor" "F" (.float (0 : UInt32)) := D156 (Or.inr (hw _ (List.mem_of_getElem? (i := 97) rfl))) (ty := .float) (by decide)
  have F156_99 : Fld Z h156 b156 "java/util/LinkedHashMap" "putMode" "I" (.int (0 : Int32)) := D156 (Or.inl (hw _ (List.mem_of_getElem? (i := 99) rfl))) (ty := .int) (by decide)
  have F156_101 : Fld Z h156 b156 "java/util/LinkedHashMap" "accessOrder" "Z" (.int (0 : Int32)) := D156 (Or.inr (hw _ (List.mem_of_getElem? (i := 101) rfl))) (ty := .boolean) (by decide)
  have F156_165 : Fld Z h156 b156 "java/util/HashMap" "modCount" "I" (.int (0 : Int32)) := D156 (Or.inl (hw _ (List.mem_of_getElem? (i := 165) rfl))) (ty := .int) (by decide)
  have F156_167 : Fld Z h156 b156 "java/util/HashMap" "table" "[Ljava/util/HashMap$Node;" .null := D156 (Or.inl (hw _ (List.mem_of_getElem? (i := 167) rfl))) (ty := (.array (.object "java/util/HashMap$Node"))) (by decide)
  have F156_169 : Fld Z h156 b156 "java/util/LinkedHashMap" "tail" "Ljava/util/LinkedHashMap$Entry;" .null := D156 (Or.inl (hw _ (List.mem_of_getElem? (i := 169) rfl))) (ty := (.object "java/util/LinkedHashMap$Entry")) (by decide)
  have F156_171 : Fld Z h156 b156 "java/util/LinkedHashMap" "head" "Ljava/util/LinkedHashMap$Entry;" .null := D156 (Or.inl (hw _ (List.mem_of_getElem? (i := 171) rfl))) (ty := (.object "java/util/LinkedHashMap$Entry")) (by decide)
  refine own_go (B := T156.setTop (mkF m 19 #[.val (.ref a), .val (.long bg), .second, .val (.ref lv), .val (.int (1 : Int32))] [(.ref b156), (.ref a)])) (fun t k => st156 _ k) ?_
  refine own_go (B := T156.setTop (mkF m 20 #[.val (.ref a), .val (.long bg), .second, .val (.ref lv), .val (.int (1 : Int32))] [(.ref b156), (.ref b156), (.ref a)])) (fun t k => XS.dup X156.here hx rfl (hb hby own_d0_19) rfl rfl k) ?_
  have f162 := (f157.ext E156)
  have lt_a_161 := f162.lt
  have f163 := (f158.ext E156)
  have lt_b149_161 := f163.lt
  have f164 := (f159.ext E156)
  have lt_en_152_161 := f164.lt
  have f165 := (f160.ext E156)
  have lt_ch_152_161 := f165.lt
  have lt_b156_161 := A156.lt
  obtain ⟨_, _, ⟨T166, L166, k166, n166⟩, -, X166, ⟨Lc166, hQ166, l166, y166, z166⟩, st166⟩ := X156.specialBack hx (y := (⟨"java/util/LinkedHashMap", "<init>", "()V"⟩ : MethodName)) rfl hown (mvT hZ (hw _ (List.mem_of_getElem? (i := 79) rfl))) (mvT hZ (hw _ (List.mem_of_getElem? (i := 80) rfl))) (mvT hZ (hw _ (List.mem_of_getElem? (i := 81) rfl))) (by decide) (backOf (W := 2) (own_rm_lhm l Z a0 hw [] b156 h156 n0 O156 A156 F156_165 F156_167 F156_171 F156_169 F156_99 F156_101 F156_97 g_b156) hZ (hw _ (List.mem_of_getElem? (i := 81) rfl)) (hw _ (List.mem_of_getElem? (i := 78) rfl)) (by decide) (by decide)) (g := (mkF m 20 #[.val (.ref a), .val (.long bg), .second, .val (.ref lv), .val (.int (1 : Int32))] [(.ref b156), (.ref b156), (.ref a)])) rfl (by rw [hml]; rfl) (Steps.refl _) (a := b156) (argsL := []) (rest := [(.ref b156), (.ref a)]) (lenOf own_pd_0 rfl) rfl (by show 2 * 0 + _ ≤ _; exact Nat.le_of_eq rfl) (hb hby own_d0_20) (fun _ _ => ⟨rfl, e156, (by decide : 5 + 0 ≤ _), (by decide : 21 + 0 ≤ _)⟩)
  dsimp only [Pt.U, Pt.locs, Pt.cells, Pt.slots] at X166 l166 y166 z166 st166 hQ166
  subst l166 y166 z166
  obtain ⟨rfl, N166q, Kc166, Q166_0, Q166_1, Q166_2, Q166_3, Q166_4⟩ := hQ166
  have O166 := O156.keep Kc166 (allS g_b156 all0)
  have K166 := K156.trans Kc166 (allS (Or.inr sz_b156) all0)
  have N166 := Fr.app N155 N166q
  refine own_go (B := T166.setTop (mkF m 23 #[.val (.ref a), .val (.long bg), .second, .val (.ref lv), .val (.int (1 : Int32))] [(.ref b156), (.ref a)])) (fun t k => st166.trans k) ?_
  have f167 := (((((F4.ext E149).keep Kc152 (ninS (Nat.ne_of_lt (Nat.lt_of_lt_of_le lt_a_149 (Nat.le_of_eq g149.symm))) nin0)).other W155 (Or.inr (slot_ne (Or.inr (hw _ (List.mem_of_getElem? (i := 103) rfl))) (Or.inr (hw _ (List.mem_of_getElem? (i := 75) rfl))) (by decide) (t := (.object "java/util/Map")) (t' := (.object "com/example/interleave/interleave/engine/UndoLog")) (by decide) (by decide)))).ext E156).keep Kc166 (ninS (Nat.ne_of_lt (Nat.lt_of_lt_of_le lt_a_156 (Nat.le_of_eq g156.symm))) nin0))
  have f168 := (f162.keep Kc166)
  obtain ⟨T169, h169, X169, e169, W169, st169⟩ := putF X166 hx hZ hown (host := "") (Or.inl (hw _ (List.mem_of_getElem? (i := 102) rfl))) Via.refl (rfl : T166.heap = T166.heap) f167 f168 (Or.inr ⟨(hw _ (List.mem_of_getElem? (i := 103) rfl)), rfl, hnm⟩) (hw _ (List.mem_of_getElem? (i := 9) rfl)) (ty := (.object "java/util/Map")) (by decide) rfl rfl (g := (mkF m 23 #[.val (.ref a), .val (.long bg), .second, .val (.ref lv), .val (.int (1 : Int32))] [(.ref b156), (.ref a)])) rfl rfl (hb hby own_d0_23)
  have Fw169 := f167.same W169
  have N169 := Fr.snoc X169 N166 G2
  have O169 := O166.wr W169 G2
  have K169 := K166.wr W169 (Or.inl (by simp))
  refine own_go (B := T169.setTop (mkF m 26 #[.val (.ref a), .val (.long bg), .second, .val (.ref lv), .val (.int (1 : Int32))] [])) (fun t k => st169 _ k) ?_
  refine own_go (B := T169.setTop (mkF m 27 #[.val (.ref a), .val (.long bg), .second, .val (.ref lv), .val (.int (1 : Int32))] [(.ref a)])) (fun t k => XS.aloadN X169.here hx rfl (hb hby own_d0_26) rfl rfl k) ?_
  refine own_go (B := T169.setTop (mkF m 30 #[.val (.ref a), .val (.long bg), .second, .val (.ref lv), .val (.int (1 : Int32))] [(.long (-1 : Int64)), (.ref a)])) (fun t k => X169.ldc2Long hx hown (mvT hZ (hw _ (List.mem_of_getElem? (i := 104) rfl))) (g := (mkF m 27 #[.val (.ref a), .val (.long bg), .second, .val (.ref lv), .val (.int (1 : Int32))] [(.ref a)])) rfl (hb hby own_d0_27) _ k) ?_
  have f170 := ((((((F5.ext E149).keep Kc152 (ninS (Nat.ne_of_lt (Nat.lt_of_lt_of_le lt_a_149 (Nat.le_of_eq g149.symm))) nin0)).other W155 (Or.inr (slot_ne (Or.inl (hw _ (List.mem_of_getElem? (i := 106) rfl))) (Or.inr (hw _ (List.mem_of_getElem? (i := 75) rfl))) (by decide) (t := .long) (t' := (.object "com/example/interleave/interleave/engine/UndoLog")) (by decide) (by decide)))).ext E156).keep Kc166 (ninS (Nat.ne_of_lt (Nat.lt_of_lt_of_le lt_a_156 (Nat.le_of_eq g156.symm))) nin0)).other W169 (Or.inr (slot_ne (Or.inl (hw _ (List.mem_of_getElem? (i := 106) rfl))) (Or.inr (hw _ (List.mem_of_getElem? (i := 103) rfl))) (by decide) (t := .long) (t' := (.object "java/util/Map")) (by decide) (by decide))))
  have f171 := (f168.wr W169)
  obtain ⟨T172, h172, X172, e172, W172, st172⟩ := putF X169 hx hZ hown (host := "") (Or.inl (hw _ (List.mem_of_getElem? (i := 105) rfl))) Via.refl e169 f170 f171 (Or.inl (hw _ (List.mem_of_getElem? (i := 106) rfl))) (hw _ (List.mem_of_getElem? (i := 9) rfl)) (ty := .long) (by decide) rfl rfl (g := (mkF m 30 #[.val (.ref a), .val (.long bg), .second, .val (.ref lv), .val (.int (1 : Int32))] [(.long (-1 : Int64)), (.ref a)])) rfl rfl (hb hby own_d0_30)
  have Fw172 := f170.same W172
  have N172 := Fr.snoc X172 N169 G2
  have O172 := O169.wr W172 G2
  have K172 := K169.wr W172 (Or.inl (by simp))
  refine own_go (B := T172.setTop (mkF m 33 #[.val (.ref a), .val (.long bg), .second, .val (.ref lv), .val (.int (1 : Int32))] [])) (fun t k => st172 _ k) ?_
  refine own_go (B := T172.setTop (mkF m 34 #[.val (.ref a), .val (.long bg), .second, .val (.ref lv), .val (.int (1 : Int32))] [(.ref a)])) (fun t k => XS.aloadN X172.here hx rfl (hb hby own_d0_33) rfl rfl k) ?_
  refine own_go (B := T172.setTop (mkF m 35 #[.val (.ref a), .val (.long bg), .second, .val (.ref lv), .val (.int (1 : Int32))] [(.long (0 : Int64)), (.ref a)])) (fun t k => XS.lconst X172.here hx rfl (hb hby own_d0_34) k) ?_
  have f173 := (((((((F6.ext E149).keep Kc152 (ninS (Nat.ne_of_lt (Nat.lt_of_lt_of_le lt_a_149 (Nat.le_of_eq g149.symm))) nin0)).other W155 (Or.inr (slot_ne (Or.inl (hw _ (List.mem_of_getElem? (i := 108) rfl))) (Or.inr (hw _ (List.mem_of_getElem? (i := 75) rfl))) (by decide) (t := .long) (t' := (.object "com/example/interleave/interleave/engine/UndoLog")) (by decide) (by decide)))).ext E156).keep Kc166 (ninS (Nat.ne_of_lt (Nat.lt_of_lt_of_le lt_a_156 (Nat.le_of_eq g156.symm))) nin0)).other W169 (Or.inr (slot_ne (Or.inl (hw _ (List.mem_of_getElem? (i := 108) rfl))) (Or.inr (hw _ (List.mem_of_getElem? (i := 103) rfl))) (by decide) (t := .long) (t' := (.object "java/util/Map")) (by decide) (by decide)))).other W172 (Or.inr (slot_ne (Or.inl (hw _ (List.mem_of_getElem? (i := 108) rfl))) (Or.inl (hw _ (List.mem_of_getElem? (i := 106) rfl))) (by decide) (t := .long) (t' := .long) (by decide) (by decide))))
  have f174 := (f171.wr W172)
  obtain ⟨T175, h175, X175, e175, W175, st175⟩ := putF X172 hx hZ hown (host := "") (Or.inl (hw _ (List.mem_of_getElem? (i := 107) rfl))) Via.refl e172 f173 f174 (Or.inl (hw _ (List.mem_of_getElem? (i := 108) rfl))) (hw _ (List.mem_of_getElem? (i := 9) rfl)) (ty := .long) (by decide) rfl rfl (g := (mkF m 35 #[.val (.ref a), .val (.long bg), .second, .val (.ref lv), .val (.int (1 : Int32))] [(.long (0 : Int64)), (.ref a)])) rfl rfl (hb hby own_d0_35)
  have Fw175 := f173.same W175
  have N175 := Fr.snoc X175 N172 G2
  have O175 := O172.wr W175 G2
  have K175 := K172.wr W175 (Or.inl (by simp))
  refine own_go (B := T175.setTop (mkF m 38 #[.val (.ref a), .val (.long bg), .second, .val (.ref lv), .val (.int (1 : Int32))] [])) (fun t k => st175 _ k) ?_
  refine own_go (B := T175.setTop (mkF m 39 #[.val (.ref a), .val (.long bg), .second, .val (.ref lv), .val (.int (1 : Int32))] [(.ref a)])) (fun t k => XS.aloadN X175.here hx rfl (hb hby own_d0_38) rfl rfl k) ?_
  refine own_go (B := T175.setTop (mkF m 40 #[.val (.ref a), .val (.long bg), .second, .val (.ref lv), .val (.int (1 : Int32))] [(.long bg), (.ref a)])) (fun t k => XS.lloadN X175.here hx rfl (hb hby own_d0_39) rfl k) ?_
  have f176 := ((((((((F7.ext E149).keep Kc152 (ninS (Nat.ne_of_lt (Nat.lt_of_lt_of_le lt_a_149 (Nat.le_of_eq g149.symm))) nin0)).other W155 (Or.inr (slot_ne (Or.inr (hw _ (List.mem_of_getElem? (i := 110) rfl))) (Or.inr (hw _ (List.mem_of_getElem? (i := 75) rfl))) (by decide) (t := .long) (t' := (.object "com/example/interleave/interleave/engine/UndoLog")) (by decide) (by decide)))).ext E156).keep Kc166 (ninS (Nat.ne_of_lt (Nat.lt_of_lt_of_le lt_a_156 (Nat.le_of_eq g156.symm))) nin0)).other W169 (Or.inr (slot_ne (Or.inr (hw _ (List.mem_of_getElem? (i := 110) rfl))) (Or.inr (hw _ (List.mem_of_getElem? (i := 103) rfl))) (by decide) (t := .long) (t' := (.object "java/util/Map")) (by decide) (by decide)))).other W172 (Or.inr (slot_ne (Or.inr (hw _ (List.mem_of_getElem? (i := 110) rfl))) (Or.inl (hw _ (List.mem_of_getElem? (i := 106) rfl))) (by decide) (t := .long) (t' := .long) (by decide) (by decide)))).other W175 (Or.inr (slot_ne (Or.inr (hw _ (List.mem_of_getElem? (i := 110) rfl))) (Or.inl (hw _ (List.mem_of_getElem? (i := 108) rfl))) (by decide) (t := .long) (t' := .long) (by decide) (by decide))))
  have f177 := (f174.wr W175)
  obtain ⟨T178, h178, X178, e178, W178, st178⟩ := putF X175 hx hZ hown (host := "") (Or.inl (hw _ (List.mem_of_getElem? (i := 109) rfl))) Via.refl e175 f176 f177 (Or.inr ⟨(hw _ (List.mem_of_getElem? (i := 110) rfl)), rfl, hnm⟩) (hw _ (List.mem_of_getElem? (i := 9) rfl)) (ty := .long) (by decide) rfl rfl (g := (mkF m 40 #[.val (.ref a), .val (.long bg), .second, .val (.ref lv), .val (.int (1 : Int32))] [(.long bg), (.ref a)])) rfl rfl (hb hby own_d0_40)
  have Fw178 := f176.same W178
  have N178 := Fr.snoc X178 N175 G2
  have O178 := O175.wr W178 G2
  have K178 := K175.wr W178 (Or.inl (by simp))
  refine own_go (B := T178.setTop (mkF m 43 #[.val (.ref a), .val (.long bg), .second, .val (.ref lv), .val (.int (1 : Int32))] [])) (fun t k => st178 _ k) ?_
  refine own_go (B := T178.setTop (mkF m 44 #[.val (.ref a), .val (.long bg), .second, .val (.ref lv), .val (.int (1 : Int32))] [(.ref a)])) (fun t k => XS.aloadN X178.here hx rfl (hb hby own_d0_43) rfl rfl k) ?_
  refine own_go (B := T178.setTop (mkF m 45 #[.val (.ref a), .val (.long bg), .second, .val (.ref lv), .val (.int (1 : Int32))] [(.ref lv), (.ref a)])) (fun t k => XS.aloadN X178.here hx rfl (hb hby own_d0_44) rfl rfl k) ?_
  have f179 := (((((((((F8.ext E149).keep Kc152 (ninS (Nat.ne_of_lt (Nat.lt_of_lt_of_le lt_a_149 (Nat.le_of_eq g149.symm))) nin0)).other W155 (Or.inr (slot_ne (Or.inr (hw _ (List.mem_of_getElem? (i := 112) rfl))) (Or.inr (hw _ (List.mem_of_getElem? (i := 75) rfl))) (by decide) (t := (.object "com/example/interleave/interleave/sql/IsolationLevel")) (t' := (.object "com/example/interleave/interleave/engine/UndoLog")) (by decide) (by decide)))).ext E156).keep Kc166 (ninS (Nat.ne_of_lt (Nat.lt_of_lt_of_le lt_a_156 (Nat.le_of_eq g156.symm))) nin0)).other W169 (Or.inr (slot_ne (Or.inr (hw _ (List.mem_of_getElem? (i := 112) rfl))) (Or.inr (hw _ (List.mem_of_getElem? (i := 103) rfl))) (by decide) (t := (.object "com/example/interleave/interleave/sql/IsolationLevel")) (t' := (.object "java/util/Map")) (by decide) (by decide)))).other W172 (Or.inr (slot_ne (Or.inr (hw _ (List.mem_of_getElem? (i := 112) rfl))) (Or.inl (hw _ (List.mem_of_getElem? (i := 106) rfl))) (by decide) (t := (.object "com/example/interleave/interleave/sql/IsolationLevel")) (t' := .long) (by decide) (by decide)))).other W175 (Or.inr (slot_ne (Or.inr (hw _ (List.mem_of_getElem? (i := 112) rfl))) (Or.inl (hw _ (List.mem_of_getElem? (i := 108) rfl))) (by decide) (t := (.object "com/example/interleave/interleave/sql/IsolationLevel")) (t' := .long) (by decide) (by decide)))).other W178 (Or.inr (slot_ne (Or.inr (hw _ (List.mem_of_getElem? (i := 112) rfl))) (Or.inr (hw _ (List.mem_of_getElem? (i := 110) rfl))) (by decide) (t := (.object "com/example/interleave/interleave/sql/IsolationLevel")) (t' := .long) (by decide) (by decide))))
  have f180 := (f177.wr W178)
  obtain ⟨T181, h181, X181, e181, W181, st181⟩ := putF X178 hx hZ hown (host := "") (Or.inl (hw _ (List.mem_of_getElem? (i := 111) rfl))) Via.refl e178 f179 f180 (Or.inr ⟨(hw _ (List.mem_of_getElem? (i := 112) rfl)), rfl, hnm⟩) (hw _ (List.mem_of_getElem? (i := 9) rfl)) (ty := (.object "com/example/interleave/interleave/sql/IsolationLevel")) (by decide) rfl rfl (g := (mkF m 45 #[.val (.ref a), .val (.long bg), .second, .val (.ref lv), .val (.int (1 : Int32))] [(.ref lv), (.ref a)])) rfl rfl (hb hby own_d0_45)
  have Fw181 := f179.same W181
  have N181 := Fr.snoc X181 N178 G2
  have O181 := O178.wr W181 G2
  have K181 := K178.wr W181 (Or.inl (by simp))
  refine own_go (B := T181.setTop (mkF m 48 #[.val (.ref a), .val (.long bg), .second, .val (.ref lv), .val (.int (1 : Int32))] [])) (fun t k => st181 _ k) ?_
  refine own_go (B := T181.setTop (mkF m 49 #[.val (.ref a), .val (.long bg), .second, .val (.ref lv), .val (.int (1 : Int32))] [(.ref a)])) (fun t k => XS.aloadN X181.here hx rfl (hb hby own_d0_48) rfl rfl k) ?_
  refine own_go (B := T181.setTop (mkF m 51 #[.val (.ref a), .val (.long bg), .second, .val (.ref lv), .val (.int (1 : Int32))] [(.int (1 : Int32)), (.ref a)])) (fun t k => XS.iload X181.here hx rfl (hb hby own_d0_49) rfl k) ?_
  have f182 := ((((((((((F9.ext E149).keep Kc152 (ninS (Nat.ne_of_lt (Nat.lt_of_lt_of_le lt_a_149 (Nat.le_of_eq g149.symm))) nin0)).other W155 (Or.inr (slot_ne (Or.inr (hw _ (List.mem_of_getElem? (i := 114) rfl))) (Or.inr (hw _ (List.mem_of_getElem? (i := 75) rfl))) (by decide) (t := .boolean) (t' := (.object "com/example/interleave/interleave/engine/UndoLog")) (by decide) (by decide)))).ext E156).keep Kc166 (ninS (Nat.ne_of_lt (Nat.lt_of_lt_of_le lt_a_156 (Nat.le_of_eq g156.symm))) nin0)).other W169 (Or.inr (slot_ne (Or.inr (hw _ (List.mem_of_getElem? (i := 114) rfl))) (Or.inr (hw _ (List.mem_of_getElem? (i := 103) rfl))) (by decide) (t := .boolean) (t' := (.object "java/util/Map")) (by decide) (by decide)))).other W172 (Or.inr (slot_ne (Or.inr (hw _ (List.mem_of_getElem? (i := 114) rfl))) (Or.inl (hw _ (List.mem_of_getElem? (i := 106) rfl))) (by decide) (t := .boolean) (t' := .long) (by decide) (by decide)))).other W175 (Or.inr (slot_ne (Or.inr (hw _ (List.mem_of_getElem? (i := 114) rfl))) (Or.inl (hw _ (List.mem_of_getElem? (i := 108) rfl))) (by decide) (t := .boolean) (t' := .long) (by decide) (by decide)))).other W178 (Or.inr (slot_ne (Or.inr (hw _ (List.mem_of_getElem? (i := 114) rfl))) (Or.inr (hw _ (List.mem_of_getElem? (i := 110) rfl))) (by decide) (t := .boolean) (t' := .long) (by decide) (by decide)))).other W181 (Or.inr (slot_ne (Or.inr (hw _ (List.mem_of_getElem? (i := 114) rfl))) (Or.inr (hw _ (List.mem_of_getElem? (i := 112) rfl))) (by decide) (t := .boolean) (t' := (.object "com/example/interleave/interleave/sql/IsolationLevel")) (by decide) (by decide))))
  have f183 := (f180.wr W181)
  obtain ⟨T184, h184, X184, e184, W184, st184⟩ := putFN X181 hx hZ hown (hw _ (List.mem_of_getElem? (i := 113) rfl)) Via.refl e181 f182 f183 (Or.inr ⟨(hw _ (List.mem_of_getElem? (i := 114) rfl)), rfl, hnm⟩) (hw _ (List.mem_of_getElem? (i := 9) rfl)) (ty := .boolean) (v' := (.int (1 : Int32))) (by decide) rfl (by decide) (g := (mkF m 51 #[.val (.ref a), .val (.long bg), .second, .val (.ref lv), .val (.int (1 : Int32))] [(.int (1 : Int32)), (.ref a)])) rfl rfl (hb hby own_d0_51)
  have Fw184 := f182.same W184
  have N184 := Fr.snoc X184 N181 G2
  have O184 := O181.wr W184 G2
  have K184 := K181.wr W184 (Or.inl (by simp))
  refine own_go (B := T184.setTop (mkF m 54 #[.val (.ref a), .val (.long bg), .second, .val (.ref lv), .val (.int (1 : Int32))] [])) (fun t k => st184 _ k) ?_
  obtain ⟨fs, hr, hrun, hended, hW, hsame⟩ := X184.leave (v := none) (fun _ => rfl)
  have f186 := (f183.wr W184)
  have f187 := ((((((((Fw155.ext E156).keep Kc166 (ninS (Nat.ne_of_lt (Nat.lt_of_lt_of_le lt_a_156 (Nat.le_of_eq g156.symm))) nin0)).other W169 (Or.inr (slot_ne (Or.inr (hw _ (List.mem_of_getElem? (i := 75) rfl))) (Or.inr (hw _ (List.mem_of_getElem? (i := 103) rfl))) (by decide) (t := (.object "com/example/interleave/interleave/engine/UndoLog")) (t' := (.object "java/util/Map")) (by decide) (by decide)))).other W172 (Or.inr (slot_ne (Or.inr (hw _ (List.mem_of_getElem? (i := 75) rfl))) (Or.inl (hw _ (List.mem_of_getElem? (i := 106) rfl))) (by decide) (t := (.object "com/example/interleave/interleave/engine/UndoLog")) (t' := .long) (by decide) (by decide)))).other W175 (Or.inr (slot_ne (Or.inr (hw _ (List.mem_of_getElem? (i := 75) rfl))) (Or.inl (hw _ (List.mem_of_getElem? (i := 108) rfl))) (by decide) (t := (.object "com/example/interleave/interleave/engine/UndoLog")) (t' := .long) (by decide) (by decide)))).other W178 (Or.inr (slot_ne (Or.inr (hw _ (List.mem_of_getElem? (i := 75) rfl))) (Or.inr (hw _ (List.mem_of_getElem? (i := 110) rfl))) (by decide) (t := (.object "com/example/interleave/interleave/engine/UndoLog")) (t' := .long) (by decide) (by decide)))).other W181 (Or.inr (slot_ne (Or.inr (hw _ (List.mem_of_getElem? (i := 75) rfl))) (Or.inr (hw _ (List.mem_of_getElem? (i := 112) rfl))) (by decide) (t := (.object "com/example/interleave/interleave/engine/UndoLog")) (t' := (.object "com/example/interleave/interleave/sql/IsolationLevel")) (by decide) (by decide)))).other W184 (Or.inr (slot_ne (Or.inr (hw _ (List.mem_of_getElem? (i := 75) rfl))) (Or.inr (hw _ (List.mem_of_getElem? (i := 114) rfl))) (by decide) (t := (.object "com/example/interleave/interleave/engine/UndoLog")) (t' := .boolean) (by decide) (by decide))))
  have f188 := (((((Fw169.other W172 (Or.inr (slot_ne (Or.inr (hw _ (List.mem_of_getElem? (i := 103) rfl))) (Or.inl (hw _ (List.mem_of_getElem? (i := 106) rfl))) (by decide) (t := (.object "java/util/Map")) (t' := .long) (by decide) (by decide)))).other W175 (Or.inr (slot_ne (Or.inr (hw _ (List.mem_of_getElem? (i := 103) rfl))) (Or.inl (hw _ (List.mem_of_getElem? (i := 108) rfl))) (by decide) (t := (.object "java/util/Map")) (t' := .long) (by decide) (by decide)))).other W178 (Or.inr (slot_ne (Or.inr (hw _ (List.mem_of_getElem? (i := 103) rfl))) (Or.inr (hw _ (List.mem_of_getElem? (i := 110) rfl))) (by decide) (t := (.object "java/util/Map")) (t' := .long) (by decide) (by decide)))).other W181 (Or.inr (slot_ne (Or.inr (hw _ (List.mem_of_getElem? (i := 103) rfl))) (Or.inr (hw _ (List.mem_of_getElem? (i := 112) rfl))) (by decide) (t := (.object "java/util/Map")) (t' := (.object "com/example/interleave/interleave/sql/IsolationLevel")) (by decide) (by decide)))).other W184 (Or.inr (slot_ne (Or.inr (hw _ (List.mem_of_getElem? (i := 103) rfl))) (Or.inr (hw _ (List.mem_of_getElem? (i := 114) rfl))) (by decide) (t := (.object "java/util/Map")) (t' := .boolean) (by decide) (by decide))))
  have f189 := (((Fw175.other W178 (Or.inr (slot_ne (Or.inl (hw _ (List.mem_of_getElem? (i := 108) rfl))) (Or.inr (hw _ (List.mem_of_getElem? (i := 110) rfl))) (by decide) (t := .long) (t' := .long) (by decide) (by decide)))).other W181 (Or.inr (slot_ne (Or.inl (hw _ (List.mem_of_getElem? (i := 108) rfl))) (Or.inr (hw _ (List.mem_of_getElem? (i := 112) rfl))) (by decide) (t := .long) (t' := (.object "com/example/interleave/interleave/sql/IsolationLevel")) (by decide) (by decide)))).other W184 (Or.inr (slot_ne (Or.inl (hw _ (List.mem_of_getElem? (i := 108) rfl))) (Or.inr (hw _ (List.mem_of_getElem? (i := 114) rfl))) (by decide) (t := .long) (t' := .boolean) (by decide) (by decide))))
  have f190 := (((((((f163.keep Kc166).wr W169).wr W172).wr W175).wr W178).wr W181).wr W184)
  have f191 := (((((((((Q152_3.other W155 (Or.inl (Ne.symm (Nat.ne_of_lt (Nat.lt_of_lt_of_le lt_a_149 (Nat.le_of_eq g149.symm)))))).ext E156).keep Kc166 (ninS (Nat.ne_of_lt (Nat.lt_of_lt_of_le lt_b149_156 (Nat.le_of_eq g156.symm))) nin0)).other W169 (Or.inl (Ne.symm (Nat.ne_of_lt (Nat.lt_of_lt_of_le lt_a_149 (Nat.le_of_eq g149.symm)))))).other W172 (Or.inl (Ne.symm (Nat.ne_of_lt (Nat.lt_of_lt_of_le lt_a_149 (Nat.le_of_eq g149.symm)))))).other W175 (Or.inl (Ne.symm (Nat.ne_of_lt (Nat.lt_of_lt_of_le lt_a_149 (Nat.le_of_eq g149.symm)))))).other W178 (Or.inl (Ne.symm (Nat.ne_of_lt (Nat.lt_of_lt_of_le lt_a_149 (Nat.le_of_eq g149.symm)))))).other W181 (Or.inl (Ne.symm (Nat.ne_of_lt (Nat.lt_of_lt_of_le lt_a_149 (Nat.le_of_eq g149.symm)))))).other W184 (Or.inl (Ne.symm (Nat.ne_of_lt (Nat.lt_of_lt_of_le lt_a_149 (Nat.le_of_eq g149.symm))))))
  have f192 := (((((((((Q152_4.other W155 (Or.inl (Ne.symm (Nat.ne_of_lt (Nat.lt_of_lt_of_le lt_a_149 (Nat.le_of_eq g149.symm)))))).ext E156).keep Kc166 (ninS (Nat.ne_of_lt (Nat.lt_of_lt_of_le lt_b149_156 (Nat.le_of_eq g156.symm))) nin0)).other W169 (Or.inl (Ne.symm (Nat.ne_of_lt (Nat.lt_of_lt_of_le lt_a_149 (Nat.le_of_eq g149.symm)))))).other W172 (Or.inl (Ne.symm (Nat.ne_of_lt (Nat.lt_of_lt_of_le lt_a_149 (Nat.le_of_eq g149.symm)))))).other W175 (Or.inl (Ne.symm (Nat.ne_of_lt (Nat.lt_of_lt_of_le lt_a_149 (Nat.le_of_eq g149.symm)))))).other W178 (Or.inl (Ne.symm (Nat.ne_of_lt (Nat.lt_of_lt_of_le lt_a_149 (Nat.le_of_eq g149.symm)))))).other W181 (Or.inl (Ne.symm (Nat.ne_of_lt (Nat.lt_of_lt_of_le lt_a_149 (Nat.le_of_eq g149.symm)))))).other W184 (Or.inl (Ne.symm (Nat.ne_of_lt (Nat.lt_of_lt_of_le lt_a_149 (Nat.le_of_eq g149.symm))))))
  have f193 := (((((((f164.keep Kc166).wr W169).wr W172).wr W175).wr W178).wr W181).wr W184)
  have f194 := (((((((((Q152_6.other W155 (Or.inl (Ne.symm (Nat.ne_of_lt (Nat.lt_of_lt_of_le lt_a_150 Q152_0))))).ext E156).keep Kc166 (ninS (Nat.ne_of_lt (Nat.lt_of_lt_of_le lt_en_152_156 (Nat.le_of_eq g156.symm))) nin0)).other W169 (Or.inl (Ne.symm (Nat.ne_of_lt (Nat.lt_of_lt_of_le lt_a_150 Q152_0))))).other W172 (Or.inl (Ne.symm (Nat.ne_of_lt (Nat.lt_of_lt_of_le lt_a_150 Q152_0))))).other W175 (Or.inl (Ne.symm (Nat.ne_of_lt (Nat.lt_of_lt_of_le lt_a_150 Q152_0))))).other W178 (Or.inl (Ne.symm (Nat.ne_of_lt (Nat.lt_of_lt_of_le lt_a_150 Q152_0))))).other W181 (Or.inl (Ne.symm (Nat.ne_of_lt (Nat.lt_of_lt_of_le lt_a_150 Q152_0))))).other W184 (Or.inl (Ne.symm (Nat.ne_of_lt (Nat.lt_of_lt_of_le lt_a_150 Q152_0)))))
  have f195 := (((((((((Q152_7.other W155 (Or.inl (Ne.symm (Nat.ne_of_lt (Nat.lt_of_lt_of_le lt_a_150 Q152_0))))).ext E156).keep Kc166 (ninS (Nat.ne_of_lt (Nat.lt_of_lt_of_le lt_en_152_156 (Nat.le_of_eq g156.symm))) nin0)).other W169 (Or.inl (Ne.symm (Nat.ne_of_lt (Nat.lt_of_lt_of_le lt_a_150 Q152_0))))).other W172 (Or.inl (Ne.symm (Nat.ne_of_lt (Nat.lt_of_lt_of_le lt_a_150 Q152_0))))).other W175 (Or.inl (Ne.symm (Nat.ne_of_lt (Nat.lt_of_lt_of_le lt_a_150 Q152_0))))).other W178 (Or.inl (Ne.symm (Nat.ne_of_lt (Nat.lt_of_lt_of_le lt_a_150 Q152_0))))).other W181 (Or.inl (Ne.symm (Nat.ne_of_lt (Nat.lt_of_lt_of_le lt_a_150 Q152_0))))).other W184 (Or.inl (Ne.symm (Nat.ne_of_lt (Nat.lt_of_lt_of_le lt_a_150 Q152_0)))))
  have f196 := (((((((((Q152_8.other W155 (Or.inl (Ne.symm (Nat.ne_of_lt (Nat.lt_of_lt_of_le lt_a_150 Q152_0))))).ext E156).keep Kc166 (ninS (Nat.ne_of_lt (Nat.lt_of_lt_of_le lt_en_152_156 (Nat.le_of_eq g156.symm))) nin0)).other W169 (Or.inl (Ne.symm (Nat.ne_of_lt (Nat.lt_of_lt_of_le lt_a_150 Q152_0))))).other W172 (Or.inl (Ne.symm (Nat.ne_of_lt (Nat.lt_of_lt_of_le lt_a_150 Q152_0))))).other W175 (Or.inl (Ne.symm (Nat.ne_of_lt (Nat.lt_of_lt_of_le lt_a_150 Q152_0))))).other W178 (Or.inl (Ne.symm (Nat.ne_of_lt (Nat.lt_of_lt_of_le lt_a_150 Q152_0))))).other W181 (Or.inl (Ne.symm (Nat.ne_of_lt (Nat.lt_of_lt_of_le lt_a_150 Q152_0))))).other W184 (Or.inl (Ne.symm (Nat.ne_of_lt (Nat.lt_of_lt_of_le lt_a_150 Q152_0)))))
  have f197 := (((((((f165.keep Kc166).wr W169).wr W172).wr W175).wr W178).wr W181).wr W184)
  have f198 := (((((((((Q152_10.other W155 (Or.inl (Ne.symm (Nat.ne_of_lt (Nat.lt_of_lt_of_le lt_a_150 Q152_1))))).ext E156).keep Kc166 (ninS (Nat.ne_of_lt (Nat.lt_of_lt_of_le lt_ch_152_156 (Nat.le_of_eq g156.symm))) nin0)).other W169 (Or.inl (Ne.symm (Nat.ne_of_lt (Nat.lt_of_lt_of_le lt_a_150 Q152_1))))).other W172 (Or.inl (Ne.symm (Nat.ne_of_lt (Nat.lt_of_lt_of_le lt_a_150 Q152_1))))).other W175 (Or.inl (Ne.symm (Nat.ne_of_lt (Nat.lt_of_lt_of_le lt_a_150 Q152_1))))).other W178 (Or.inl (Ne.symm (Nat.ne_of_lt (Nat.lt_of_lt_of_le lt_a_150 Q152_1))))).other W181 (Or.inl (Ne.symm (Nat.ne_of_lt (Nat.lt_of_lt_of_le lt_a_150 Q152_1))))).other W184 (Or.inl (Ne.symm (Nat.ne_of_lt (Nat.lt_of_lt_of_le lt_a_150 Q152_1)))))
  have f199 := ((((((Q166_0.wr W169).wr W172).wr W175).wr W178).wr W181).wr W184)
  have f200 := ((((((Q166_1.other W169 (Or.inl (Ne.symm (Nat.ne_of_lt (Nat.lt_of_lt_of_le lt_a_156 (Nat.le_of_eq g156.symm)))))).other W172 (Or.inl (Ne.symm (Nat.ne_of_lt (Nat.lt_of_lt_of_le lt_a_156 (Nat.le_of_eq g156.symm)))))).other W175 (Or.inl (Ne.symm (Nat.ne_of_lt (Nat.lt_of_lt_of_le lt_a_156 (Nat.le_of_eq g156.symm)))))).other W178 (Or.inl (Ne.symm (Nat.ne_of_lt (Nat.lt_of_lt_of_le lt_a_156 (Nat.le_of_eq g156.symm)))))).other W181 (Or.inl (Ne.symm (Nat.ne_of_lt (Nat.lt_of_lt_of_le lt_a_156 (Nat.le_of_eq g156.symm)))))).other W184 (Or.inl (Ne.symm (Nat.ne_of_lt (Nat.lt_of_lt_of_le lt_a_156 (Nat.le_of_eq g156.symm))))))
  have f201 := ((((((Q166_2.other W169 (Or.inl (Ne.symm (Nat.ne_of_lt (Nat.lt_of_lt_of_le lt_a_156 (Nat.le_of_eq g156.symm)))))).other W172 (Or.inl (Ne.symm (Nat.ne_of_lt (Nat.lt_of_lt_of_le lt_a_156 (Nat.le_of_eq g156.symm)))))).other W175 (Or.inl (Ne.symm (Nat.ne_of_lt (Nat.lt_of_lt_of_le lt_a_156 (Nat.le_of_eq g156.symm)))))).other W178 (Or.inl (Ne.symm (Nat.ne_of_lt (Nat.lt_of_lt_of_le lt_a_156 (Nat.le_of_eq g156.symm)))))).other W181 (Or.inl (Ne.symm (Nat.ne_of_lt (Nat.lt_of_lt_of_le lt_a_156 (Nat.le_of_eq g156.symm)))))).other W184 (Or.inl (Ne.symm (Nat.ne_of_lt (Nat.lt_of_lt_of_le lt_a_156 (Nat.le_of_eq g156.symm))))))
  have f202 := ((((((Q166_3.other W169 (Or.inl (Ne.symm (Nat.ne_of_lt (Nat.lt_of_lt_of_le lt_a_156 (Nat.le_of_eq g156.symm)))))).other W172 (Or.inl (Ne.symm (Nat.ne_of_lt (Nat.lt_of_lt_of_le lt_a_156 (Nat.le_of_eq g156.symm)))))).other W175 (Or.inl (Ne.symm (Nat.ne_of_lt (Nat.lt_of_lt_of_le lt_a_156 (Nat.le_of_eq g156.symm)))))).other W178 (Or.inl (Ne.symm (Nat.ne_of_lt (Nat.lt_of_lt_of_le lt_a_156 (Nat.le_of_eq g156.symm)))))).other W181 (Or.inl (Ne.symm (Nat.ne_of_lt (Nat.lt_of_lt_of_le lt_a_156 (Nat.le_of_eq g156.symm)))))).other W184 (Or.inl (Ne.symm (Nat.ne_of_lt (Nat.lt_of_lt_of_le lt_a_156 (Nat.le_of_eq g156.symm))))))
  have f203 := ((((((Q166_4.other W169 (Or.inl (Ne.symm (Nat.ne_of_lt (Nat.lt_of_lt_of_le lt_a_156 (Nat.le_of_eq g156.symm)))))).other W172 (Or.inl (Ne.symm (Nat.ne_of_lt (Nat.lt_of_lt_of_le lt_a_156 (Nat.le_of_eq g156.symm)))))).other W175 (Or.inl (Ne.symm (Nat.ne_of_lt (Nat.lt_of_lt_of_le lt_a_156 (Nat.le_of_eq g156.symm)))))).other W178 (Or.inl (Ne.symm (Nat.ne_of_lt (Nat.lt_of_lt_of_le lt_a_156 (Nat.le_of_eq g156.symm)))))).other W181 (Or.inl (Ne.symm (Nat.ne_of_lt (Nat.lt_of_lt_of_le lt_a_156 (Nat.le_of_eq g156.symm)))))).other W184 (Or.inl (Ne.symm (Nat.ne_of_lt (Nat.lt_of_lt_of_le lt_a_156 (Nat.le_of_eq g156.symm))))))
  refine ⟨_, _, X184.returnOut hx Bd.returns (hb hby own_d0_54) hr, hK _ _ ⟨hrun, hended, _, _, rfl, ?_, ⟨_, rfl⟩, hW, hsame.mono (by decide) (by decide)⟩⟩
  show own_Q_tr1 Z a lv w_DEF bg h0 n0 _ T184.heap _
  rw [e184]
  exact ⟨b149, b156, en_152, ch_152, rfl, N184, K184, sz_b149, sz_b156, sz_en_152, sz_ch_152, f186, f187, f188, f189, f190, f191, f192, f193, f194, f195, f196, f197, f198, f199, f200, f201, f202, f203⟩
theorem own_d12_0 : decode jdk_38_method_40_code 0 = .ok (.aload_n 0, 1) := by decide +kernel
theorem own_d12_1 : decode jdk_38_method_40_code 1 = .ok (.dup, 1) := by decide +kernel
theorem own_d12_2 : decode jdk_38_method_40_code 2 = .ok (.getfield 63, 3) := by decide +kernel
theorem own_d12_5 : decode jdk_38_method_40_code 5 = .ok (.iconst 1, 1) := by decide +kernel
theorem own_d12_6 : decode jdk_38_method_40_code 6 = .ok (.iadd, 1) := by decide +kernel
theorem own_d12_7 : decode jdk_38_method_40_code 7 = .ok (.putfield 63, 3) := by decide +kernel
theorem own_d12_10 : decode jdk_38_method_40_code 10 = .ok (.aload_n 0, 1) := by decide +kernel
theorem own_d12_11 : decode jdk_38_method_40_code 11 = .ok (.getfield 9, 3) := by decide +kernel
theorem own_d12_14 : decode jdk_38_method_40_code 14 = .ok (.astore_n 1, 1) := by decide +kernel
theorem own_d12_15 : decode jdk_38_method_40_code 15 = .ok (.aload_n 0, 1) := by decide +kernel
theorem own_d12_16 : decode jdk_38_method_40_code 16 = .ok (.getfield 48, 3) := by decide +kernel
theorem own_d12_19 : decode jdk_38_method_40_code 19 = .ok (.istore_n 2, 1) := by decide +kernel
theorem own_d12_20 : decode jdk_38_method_40_code 20 = .ok (.aload_n 0, 1) := by decide +kernel
theorem own_d12_21 : decode jdk_38_method_40_code 21 = .ok (.iconst 0, 1) := by decide +kernel
theorem own_d12_22 : decode jdk_38_method_40_code 22 = .ok (.dup_x1, 1) := by decide +kernel
theorem own_d12_23 : decode jdk_38_method_40_code 23 = .ok (.putfield 48, 3) := by decide +kernel
theorem own_d12_26 : decode jdk_38_method_40_code 26 = .ok (.istore_n 3, 1) := by decide +kernel
theorem own_d12_27 : decode jdk_38_method_40_code 27 = .ok (.iload_n 3, 1) := by decide +kernel
theorem own_d12_28 : decode jdk_38_method_40_code 28 = .ok (.iload_n 2, 1) := by decide +kernel
theorem own_d12_29 : decode jdk_38_method_40_code 29 = .ok (.if_icmp .ge 13, 3) := by decide +kernel
theorem own_d12_42 : decode jdk_38_method_40_code 42 = .ok (.return_, 1) := by decide +kernel
theorem own_ef_alc (m : MethodId) (x0 : Addr)  : entryFrame m #[(.ref x0)] 4 = mkF m 0 #[.val (.ref x0), .unset, .unset, .unset] [] := by first | (simp [entryFrame, mkF, argsToLocals, Value.category]; done) | rfl
def own_Q_alc (Z : State) (a w_DEF : Addr) (h0 : Heap) (n0 : Nat) (v : Option Value) (h : Heap) (L : List Loc) : Prop := v = none ∧ Fr n0 L ∧ Keep h0 h [a] ∧ Exa Z h a "java/util/ArrayList"
set_option maxRecDepth 65536 in
set_option maxHeartbeats 40000000 in
theorem own_rm_alc (l : Launch) (Z : State) (a0 : Array Value) (hw : ∀ d ∈ tables_1, d.before a0 Z = true) (ws : List Jvm.Cond) (a w_DEF : Addr) (h0 : Heap) (n0 : Nat) (O0 : Old Z n0 h0) (E0 : Exa Z h0 a "java/util/ArrayList") (F1 : Fld Z h0 a "java/util/AbstractList" "modCount" "I" (.int (0 : Int32))) (F2 : Fld Z h0 a "java/util/ArrayList" "elementData" "[Ljava/lang/Object;" (.ref w_DEF)) (F3 : Fld Z h0 a "java/util/ArrayList" "size" "I" (.int (0 : Int32))) (G4 : n0 ≤ a) :
    MetFree l (⟨"java/util/ArrayList", "clear", "()V"⟩ : MethodName) (head1 (Jvm.Cond.code (⟨"java/util/ArrayList", "clear", "()V"⟩ : MethodName) jdk_38_method_40_code 4 none :: ws) ({ frames := 0, cells := 0, slots := 0, locals := 0 } : Room)) (fun ar9 U => ar9 = #[(.ref a)] ∧ Z.Warmed39 U.vm ∧ U.heap = h0) (fun _ _ _ _ _ => True) (fun _ U o U' => ∃ v L, o = .returned v ∧ own_Q_alc Z a w_DEF h0 n0 v U'.heap L ∧ FrameEnd U o U' L ({ frames := 0, cells := 0, slots := 0, locals := 0 } : Room).cells ({ frames := 0, cells := 0, slots := 0, locals := 0 } : Room).slots) := by
  refine MetFree.of_bodySF (plainFor_of_name own_pn_3) hisR ?_
  intro p e s m args below meth c s₁ Bd hml0 hP hK0
  obtain ⟨rfl, hZ, hh⟩ := hP
  have hx := Bd.exec
  have hby := Bd.bytes
  have hml : c.maxLocals = 4 := hml0
  have hown : s.vm.findClass "java/util/ArrayList" = some m.cls := findClass_of_methodNamed Bd.named
  have hnm := (name_of_methodNamed Bd.named Bd.method).1
  have X0 : Stand p l e ({ frames := 0, cells := 0, slots := 0, locals := 0 } : Room) s m #[(.ref a)] below meth c s₁ [] 0 0 := Stand.of_body Bd
  have e0 : s₁.heap = h0 := by rw [← hh, Bd.state]; rfl
  have N0 := Fr.nil n0
  have K0 := Keep.refl h0 [a]
  refine own_open fun K hK => ?_
  refine own_go (B := s₁.setTop (mkF m 0 #[.val (.ref a), .unset, .unset, .unset] [])) (fun t k => castTop (own_ef_alc m a) k) ?_
  refine own_go (B := s₁.setTop (mkF m 1 #[.val (.ref a), .unset, .unset, .unset] [(.ref a)])) (fun t k => XS.aloadN X0.here hx rfl (hb hby own_d12_0) rfl rfl k) ?_
  refine own_go (B := s₁.setTop (mkF m 2 #[.val (.ref a), .unset, .unset, .unset] [(.ref a), (.ref a)])) (fun t k => XS.dup X0.here hx rfl (hb hby own_d12_1) rfl rfl k) ?_
  obtain ⟨T204, X204, e204, st204⟩ := getF X0 hx hZ hown (host := "") (Or.inl (hw _ (List.mem_of_getElem? (i := 141) rfl))) (Via.of (hw _ (List.mem_of_getElem? (i := 142) rfl))) e0 F1 (g := (mkF m 2 #[.val (.ref a), .unset, .unset, .unset] [(.ref a), (.ref a)])) rfl rfl (hb hby own_d12_2)
  refine own_go (B := T204.setTop (mkF m 5 #[.val (.ref a), .unset, .unset, .unset] [(.int (0 : Int32)), (.ref a)])) (fun t k => st204 _ k) ?_
  refine own_go (B := T204.setTop (mkF m 6 #[.val (.ref a), .unset, .unset, .unset] [(.int (1 : Int32)), (.int (0 : Int32)), (.ref a)])) (fun t k => XS.iconst X204.here hx rfl (hb hby own_d12_5) k) ?_
  refine own_go (B := T204.setTop (mkF m 7 #[.val (.ref a), .unset, .unset, .unset] [(.int ((0 : Int32) + (1 : Int32))), (.ref a)])) (fun t k => XS.iadd X204.here hx rfl (hb hby own_d12_6) rfl k) ?_
  obtain ⟨T205, h205, X205, e205, W205, st205⟩ := putF X204 hx hZ hown (host := "") (Or.inl (hw _ (List.mem_of_getElem? (i := 141) rfl))) (Via.of (hw _ (List.mem_of_getElem? (i := 142) rfl))) e204 F1 E0 (Or.inl (hw _ (List.mem_of_getElem? (i := 44) rfl))) (hw _ (List.mem_of_getElem? (i := 25) rfl)) (ty := .int) (by decide) rfl rfl (g := (mkF m 7 #[.val (.ref a), .unset, .unset, .unset] [(.int ((0 : Int32) + (1 : Int32))), (.ref a)])) rfl rfl (hb hby own_d12_7)
  have Fw205 := F1.same W205
  have N205 := Fr.snoc X205 N0 G4
  have O205 := O0.wr W205 G4
  have K205 := K0.wr W205 (Or.inl (by simp))
  refine own_go (B := T205.setTop (mkF m 10 #[.val (.ref a), .unset, .unset, .unset] [])) (fun t k => st205 _ k) ?_
  refine own_go (B := T205.setTop (mkF m 11 #[.val (.ref a), .unset, .unset, .unset] [(.ref a)])) (fun t k => XS.aloadN X205.here hx rfl (hb hby own_d12_10) rfl rfl k) ?_
  have f206 := (F2.other W205 (Or.inr (slot_ne (Or.inl (hw _ (List.mem_of_getElem? (i := 47) rfl))) (Or.inl (hw _ (List.mem_of_getElem? (i := 44) rfl))) (by decide) (t := (.array (.object "java/lang/Object"))) (t' := .int) (by decide) (by decide))))
  obtain ⟨T207, X207, e207, st207⟩ := getF X205 hx hZ hown (host := "") (Or.inl (hw _ (List.mem_of_getElem? (i := 46) rfl))) Via.refl e205 f206 (g := (mkF m 11 #[.val (.ref a), .unset, .unset, .unset] [(.ref a)])) rfl rfl (hb hby own_d12_11)
  refine own_go (B := T207.setTop (mkF m 14 #[.val (.ref a), .unset, .unset, .unset] [(.ref w_DEF)])) (fun t k => st207 _ k) ?_
  refine own_go (B := T207.setTop (mkF m 15 #[.val (.ref a), .val (.ref w_DEF), .unset, .unset] [])) (fun t k => XS.astoreN X207.here hx rfl (hb hby own_d12_14) rfl rfl (l' := #[.val (.ref a), .val (.ref w_DEF), .unset, .unset]) rfl k) ?_
  refine own_go (B := T207.setTop (mkF m 16 #[.val (.ref a), .val (.ref w_DEF), .unset, .unset] [(.ref a)])) (fun t k => XS.aloadN X207.here hx rfl (hb hby own_d12_15) rfl rfl k) ?_
  have f208 := (F3.other W205 (Or.inr (slot_ne (Or.inl (hw _ (List.mem_of_getElem? (i := 144) rfl))) (Or.inl (hw _ (List.mem_of_getElem? (i := 44) rfl))) (by decide) (t := .int) (t' := .int) (by decide) (by decide))))
  obtain ⟨T209, X209, e209, st209⟩ := getF X207 hx hZ hown (host := "") (Or.inl (hw _ (List.mem_of_getElem? (i := 143) rfl))) Via.refl e207 f208 (g := (mkF m 16 #[.val (.ref a), .val (.ref w_DEF), .unset, .unset] [(.ref a)])) rfl rfl (hb hby own_d12_16)
  refine own_go (B := T209.setTop (mkF m 19 #[.val (.ref a), .val (.ref w_DEF), .unset, .unset] [(.int (0 : Int32))])) (fun t k => st209 _ k) ?_
  refine own_go (B := T209.setTop (mkF m 20 #[.val (.ref a), .val (.ref w_DEF), .val (.int (0 : Int32)), .unset] [])) (fun t k => XS.istoreN X209.here hx rfl (hb hby own_d12_19) rfl (l' := #[.val (.ref a), .val (.ref w_DEF), .val (.int (0 : Int32)), .unset]) rfl k) ?_
  refine own_go (B := T209.setTop (mkF m 21 #[.val (.ref a), .val (.ref w_DEF), .val (.int (0 : Int32)), .unset] [(.ref a)])) (fun t k => XS.aloadN X209.here hx rfl (hb hby own_d12_20) rfl rfl k) ?_
  refine own_go (B := T209.setTop (mkF m 22 #[.val (.ref a), .val (.ref w_DEF), .val (.int (0 : Int32)), .unset] [(.int (0 : Int32)), (.ref a)])) (fun t k => XS.iconst X209.here hx rfl (hb hby own_d12_21) k) ?_
  refine own_go (B := T209.setTop (mkF m 23 #[.val (.ref a), .val (.ref w_DEF), .val (.int (0 : Int32)), .unset] [(.int (0 : Int32)), (.ref a), (.int (0 : Int32))])) (fun t k => XS.dupX1 X209.here hx rfl (hb hby own_d12_22) rfl rfl rfl k) ?_
  have f210 := (E0.wr W205)
  obtain ⟨T211, h211, X211, e211, W211, st211⟩ := putF X209 hx hZ hown (host := "") (Or.inl (hw _ (List.mem_of_getElem? (i := 143) rfl))) Via.refl e209 f208 f210 (Or.inl (hw _ (List.mem_of_getElem? (i := 144) rfl))) (hw _ (List.mem_of_getElem? (i := 25) rfl)) (ty := .int) (by decide) rfl rfl (g := (mkF m 23 #[.val (.ref a), .val (.ref w_DEF), .val (.int (0 : Int32)), .unset] [(.int (0 : Int32)), (.ref a), (.int (0 : Int32))])) rfl rfl (hb hby own_d12_23)
  have Fw211 := f208.same W211
  have N211 := Fr.snoc X211 N205 G4
  have O211 := O205.wr W211 G4
  have K211 := K205.wr W211 (Or.inl (by simp))
  refine own_go (B := T211.setTop (mkF m 26 #[.val (.ref a), .val (.ref w_DEF), .val (.int (0 : Int32)), .unset] [(.int (0 : Int32))])) (fun t k => st211 _ k) ?_
  refine own_go (B := T211.setTop (mkF m 27 #[.val (.ref a), .val (.ref w_DEF), .val (.int (0 : Int32)), .val (.int (0 : Int32))] [])) (fun t k => XS.istoreN X211.here hx rfl (hb hby own_d12_26) rfl (l' := #[.val (.ref a), .val (.ref w_DEF), .val (.int (0 : Int32)), .val (.int (0 : Int32))]) rfl k) ?_
  refine own_go (B := T211.setTop (mkF m 28 #[.val (.ref a), .val (.ref w_DEF), .val (.int (0 : Int32)), .val (.int (0 : Int32))] [(.int (0 : Int32))])) (fun t k => XS.iloadN X211.here hx rfl (hb hby own_d12_27) rfl k) ?_
  refine own_go (B := T211.setTop (mkF m 29 #[.val (.ref a), .val (.ref w_DEF), .val (.int (0 : Int32)), .val (.int (0 : Int32))] [(.int (0 : Int32)), (.int (0 : Int32))])) (fun t k => XS.iloadN X211.here hx rfl (hb hby own_d12_28) rfl k) ?_
  refine own_go (B := T211.setTop (mkF m 42 #[.val (.ref a), .val (.ref w_DEF), .val (.int (0 : Int32)), .val (.int (0 : Int32))] [])) (fun t k => XS.icmpYes X211.here hx rfl (pc0 := 29) (pc' := 42) rfl (hb hby own_d12_29) rfl (flt (by decide : ¬ ((0 : Int32) < (0 : Int32)))).2.1 (by decide) (by decide) k) ?_
  obtain ⟨fs, hr, hrun, hended, hW, hsame⟩ := X211.leave (v := none) (fun _ => rfl)
  have f214 := (f210.wr W211)
  refine ⟨_, _, X211.returnOut hx Bd.returns (hb hby own_d12_42) hr, hK _ _ ⟨hrun, hended, _, _, rfl, ?_, ⟨_, rfl⟩, hW, hsame.mono (by decide) (by decide)⟩⟩
  show own_Q_alc Z a w_DEF h0 n0 _ T211.heap _
  rw [e211]
  exact ⟨rfl, N211, K211, f214⟩
theorem own_d14_0 : decode jdk_92_method_25_code 0 = .ok (.aload_n 0, 1) := by decide +kernel
theorem own_d14_1 : decode jdk_92_method_25_code 1 = .ok (.getfield 7, 3) := by decide +kernel
theorem own_d14_4 : decode jdk_92_method_25_code 4 = .ok (.ifCond .le 23, 3) := by decide +kernel
theorem own_d14_27 : decode jdk_92_method_25_code 27 = .ok (.return_, 1) := by decide +kernel
theorem own_ef_bsc (m : MethodId) (x0 : Addr)  : entryFrame m #[(.ref x0)] 1 = mkF m 0 #[.val (.ref x0)] [] := by first | (simp [entryFrame, mkF, argsToLocals, Value.category]; done) | rfl
def own_Q_bsc (Z : State) (a : Addr) (h0 : Heap) (n0 : Nat) (v : Option Value) (h : Heap) (L : List Loc) : Prop := v = none ∧ Fr n0 L ∧ h = h0
set_option maxRecDepth 65536 in
set_option maxHeartbeats 40000000 in
theorem own_rm_bsc (l : Launch) (Z : State) (a0 : Array Value) (hw : ∀ d ∈ tables_1, d.before a0 Z = true) (ws : List Jvm.Cond) (a : Addr) (h0 : Heap) (n0 : Nat) (O0 : Old Z n0 h0) (F0 : Fld Z h0 a "java/util/BitSet" "wordsInUse" "I" (.int (0 : Int32))) :
    MetFree l (⟨"java/util/BitSet", "clear", "()V"⟩ : MethodName) (head1 (Jvm.Cond.code (⟨"java/util/BitSet", "clear", "()V"⟩ : MethodName) jdk_92_method_25_code 1 none :: ws) ({ frames := 0, cells := 0, slots := 0, locals := 0 } : Room)) (fun ar9 U => ar9 = #[(.ref a)] ∧ Z.Warmed39 U.vm ∧ U.heap = h0) (fun _ _ _ _ _ => True) (fun _ U o U' => ∃ v L, o = .returned v ∧ own_Q_bsc Z a h0 n0 v U'.heap L ∧ FrameEnd U o U' L ({ frames := 0, cells := 0, slots := 0, locals := 0 } : Room).cells ({ frames := 0, cells := 0, slots := 0, locals := 0 } : Room).slots) := by
  refine MetFree.of_bodySF (plainFor_of_name own_pn_4) hisR ?_
  intro p e s m args below meth c s₁ Bd hml0 hP hK0
  obtain ⟨rfl, hZ, hh⟩ := hP
  have hx := Bd.exec
  have hby := Bd.bytes
  have hml : c.maxLocals = 1 := hml0
  have hown : s.vm.findClass "java/util/BitSet" = some m.cls := findClass_of_methodNamed Bd.named
  have hnm := (name_of_methodNamed Bd.named Bd.method).1
  have X0 : Stand p l e ({ frames := 0, cells := 0, slots := 0, locals := 0 } : Room) s m #[(.ref a)] below meth c s₁ [] 0 0 := Stand.of_body Bd
  have e0 : s₁.heap = h0 := by rw [← hh, Bd.state]; rfl
  have N0 := Fr.nil n0
  refine own_open fun K hK => ?_
  refine own_go (B := s₁.setTop (mkF m 0 #[.val (.ref a)] [])) (fun t k => castTop (own_ef_bsc m a) k) ?_
  refine own_go (B := s₁.setTop (mkF m 1 #[.val (.ref a)] [(.ref a)])) (fun t k => XS.aloadN X0.here hx rfl (hb hby own_d14_0) rfl rfl k) ?_
  obtain ⟨T215, X215, e215, st215⟩ := getF X0 hx hZ hown (host := "") (Or.inl (hw _ (List.mem_of_getElem? (i := 57) rfl))) Via.refl e0 F0 (g := (mkF m 1 #[.val (.ref a)] [(.ref a)])) rfl rfl (hb hby own_d14_1)
  refine own_go (B := T215.setTop (mkF m 4 #[.val (.ref a)] [(.int (0 : Int32))])) (fun t k => st215 _ k) ?_
  refine own_go (B := T215.setTop (mkF m 27 #[.val (.ref a)] [])) (fun t k => XS.ifYes X215.here hx rfl (pc0 := 4) (pc' := 27) rfl (hb hby own_d14_4) rfl ((if0 _ _).trans (flt (by decide : ¬ ((0 : Int32) < (0 : Int32)))).2.2.2) (by decide) (by decide) k) ?_
  obtain ⟨fs, hr, hrun, hended, hW, hsame⟩ := X215.leave (v := none) (fun _ => rfl)
  refine ⟨_, _, X215.returnOut hx Bd.returns (hb hby own_d14_27) hr, hK _ _ ⟨hrun, hended, _, _, rfl, ?_, ⟨_, rfl⟩, hW, hsame.mono (by decide) (by decide)⟩⟩
  show own_Q_bsc Z a h0 n0 _ T215.heap _
  rw [e215]
  exact ⟨rfl, N0, rfl⟩
theorem own_d6_0 : decode prog_57_method_6_code 0 = .ok (.aload_n 0, 1) := by decide +kernel
theorem own_d6_1 : decode prog_57_method_6_code 1 = .ok (.getfield 10, 3) := by decide +kernel
theorem own_d6_4 : decode prog_57_method_6_code 4 = .ok (.invokeinterface 40 1, 5) := by decide +kernel
theorem own_d6_9 : decode prog_57_method_6_code 9 = .ok (.aload_n 0, 1) := by decide +kernel
theorem own_d6_10 : decode prog_57_method_6_code 10 = .ok (.getfield 19, 3) := by decide +kernel
theorem own_d6_13 : decode prog_57_method_6_code 13 = .ok (.invokevirtual 43, 3) := by decide +kernel
theorem own_d6_16 : decode prog_57_method_6_code 16 = .ok (.return_, 1) := by decide +kernel
theorem own_ef_ulc (m : MethodId) (x0 : Addr)  : entryFrame m #[(.ref x0)] 1 = mkF m 0 #[.val (.ref x0)] [] := by first | (simp [entryFrame, mkF, argsToLocals, Value.category]; done) | rfl
def own_Q_ulc (Z : State) (a en ch w_DEF : Addr) (h0 : Heap) (n0 : Nat) (v : Option Value) (h : Heap) (L : List Loc) : Prop := v = none ∧ Fr n0 L ∧ Keep h0 h [en] ∧ Exa Z h en "java/util/ArrayList"
set_option maxRecDepth 65536 in
set_option maxHeartbeats 40000000 in
theorem own_rm_ulc (l : Launch) (Z : State) (a0 : Array Value) (hw : ∀ d ∈ tables_1, d.before a0 Z = true) (ws : List Jvm.Cond) (a en ch w_DEF : Addr) (h0 : Heap) (n0 : Nat) (O0 : Old Z n0 h0) (E0 : Exa Z h0 a "com/example/interleave/interleave/engine/UndoLog") (F1 : Fld Z h0 a "com/example/interleave/interleave/engine/UndoLog" "entries" "Ljava/util/List;" (.ref en)) (F2 : Fld Z h0 a "com/example/interleave/interleave/engine/UndoLog" "changes" "Ljava/util/BitSet;" (.ref ch)) (E3 : Exa Z h0 en "java/util/ArrayList") (F4 : Fld Z h0 en "java/util/AbstractList" "modCount" "I" (.int (0 : Int32))) (F5 : Fld Z h0 en "java/util/ArrayList" "elementData" "[Ljava/lang/Object;" (.ref w_DEF)) (F6 : Fld Z h0 en "java/util/ArrayList" "size" "I" (.int (0 : Int32))) (E7 : Exa Z h0 ch "java/util/BitSet") (F8 : Fld Z h0 ch "java/util/BitSet" "wordsInUse" "I" (.int (0 : Int32))) (G9 : n0 ≤ en) :
    MetFree l (⟨"com/example/interleave/interleave/engine/UndoLog", "clear", "()V"⟩ : MethodName) (head1 (Jvm.Cond.code (⟨"com/example/interleave/interleave/engine/UndoLog", "clear", "()V"⟩ : MethodName) prog_57_method_6_code 1 none :: ws) ({ frames := 1, cells := 0, slots := 0, locals := 15 } : Room)) (fun ar9 U => ar9 = #[(.ref a)] ∧ Z.Warmed39 U.vm ∧ U.heap = h0) (fun _ _ _ _ _ => True) (fun _ U o U' => ∃ v L, o = .returned v ∧ own_Q_ulc Z a en ch w_DEF h0 n0 v U'.heap L ∧ FrameEnd U o U' L ({ frames := 1, cells := 0, slots := 0, locals := 15 } : Room).cells ({ frames := 1, cells := 0, slots := 0, locals := 15 } : Room).slots) := by
  refine MetFree.of_bodySF (plainFor_of_name own_pn_7) hisR ?_
  intro p e s m args below meth c s₁ Bd hml0 hP hK0
  obtain ⟨rfl, hZ, hh⟩ := hP
  have hx := Bd.exec
  have hby := Bd.bytes
  have hml : c.maxLocals = 1 := hml0
  have hown : s.vm.findClass "com/example/interleave/interleave/engine/UndoLog" = some m.cls := findClass_of_methodNamed Bd.named
  have hnm := (name_of_methodNamed Bd.named Bd.method).1
  have X0 : Stand p l e ({ frames := 1, cells := 0, slots := 0, locals := 15 } : Room) s m #[(.ref a)] below meth c s₁ [] 0 0 := Stand.of_body Bd
  have e0 : s₁.heap = h0 := by rw [← hh, Bd.state]; rfl
  have N0 := Fr.nil n0
  have K0 := Keep.refl h0 [en]
  refine own_open fun K hK => ?_
  refine own_go (B := s₁.setTop (mkF m 0 #[.val (.ref a)] [])) (fun t k => castTop (own_ef_ulc m a) k) ?_
  refine own_go (B := s₁.setTop (mkF m 1 #[.val (.ref a)] [(.ref a)])) (fun t k => XS.aloadN X0.here hx rfl (hb hby own_d6_0) rfl rfl k) ?_
  obtain ⟨T218, X218, e218, st218⟩ := getF X0 hx hZ hown (host := "") (Or.inl (hw _ (List.mem_of_getElem? (i := 48) rfl))) Via.refl e0 F1 (g := (mkF m 1 #[.val (.ref a)] [(.ref a)])) rfl rfl (hb hby own_d6_1)
  refine own_go (B := T218.setTop (mkF m 4 #[.val (.ref a)] [(.ref en)])) (fun t k => st218 _ k) ?_
  have lt_a_219 := E0.lt
  have lt_en_219 := E3.lt
  have lt_ch_219 := E7.lt
  obtain ⟨cq220, kq220, q220a, q220b, q220c⟩ := isOf hZ e218 E3
  obtain ⟨_, _, ⟨T220, L220, k220, n220⟩, -, X220, ⟨Lc220, hQ220, l220, y220, z220⟩, st220⟩ := X218.interfaceBack hx (xi := (⟨"java/util/List", "clear", "()V"⟩ : MethodName)) (y := (⟨"java/util/ArrayList", "clear", "()V"⟩ : MethodName)) hown (mvT hZ (hw _ (List.mem_of_getElem? (i := 132) rfl))) (mvT hZ (hw _ (List.mem_of_getElem? (i := 133) rfl))) (mvT hZ (hw _ (List.mem_of_getElem? (i := 134) rfl))) (mvT hZ (hw _ (List.mem_of_getElem? (i := 135) rfl))) (mvT hZ (hw _ (List.mem_of_getElem? (i := 136) rfl))) (mvT hZ (hw _ (List.mem_of_getElem? (i := 137) rfl))) (mvT hZ (hw _ (List.mem_of_getElem? (i := 138) rfl))) (mvT hZ (hw _ (List.mem_of_getElem? (i := 139) rfl))) (by decide) (backOf (W := 0) (own_rm_alc l Z a0 hw [] en w_DEF h0 n0 O0 E3 F4 F5 F6 G9) hZ (hw _ (List.mem_of_getElem? (i := 140) rfl)) (hw _ (List.mem_of_getElem? (i := 26) rfl)) (by decide) (by decide)) q220a q220b q220c (g := (mkF m 4 #[.val (.ref a)] [(.ref en)])) rfl (by rw [hml]; rfl) (Steps.refl _) (argsL := []) (rest := []) (lenOf own_pd_0 rfl) rfl (by show 2 * 0 + _ ≤ _; exact Nat.le_of_eq rfl) (hb hby own_d6_4) (fun _ _ => ⟨rfl, e218, (by decide : 0 + 0 ≤ _), (by decide : 0 + 0 ≤ _)⟩)
  dsimp only [Pt.U, Pt.locs, Pt.cells, Pt.slots] at X220 l220 y220 z220 st220 hQ220
  subst l220 y220 z220
  obtain ⟨rfl, N220q, Kc220, Q220_0⟩ := hQ220
  have O220 := O0.keep Kc220 (allS G9 all0)
  have K220 := K0.trans Kc220 (allS (Or.inl (by simp)) all0)
  have N220 := Fr.app N0 N220q
  refine own_go (B := T220.setTop (mkF m 9 #[.val (.ref a)] [])) (fun t k => st220.trans k) ?_
  refine own_go (B := T220.setTop (mkF m 10 #[.val (.ref a)] [(.ref a)])) (fun t k => XS.aloadN X220.here hx rfl (hb hby own_d6_9) rfl rfl k) ?_
  have f221 := (E0.keep Kc220)
  have f222 := (F2.keep Kc220 (ninS (ne_exa f221 Q220_0 (by decide)) nin0))
  obtain ⟨T223, X223, e223, st223⟩ := getF X220 hx hZ hown (host := "") (Or.inl (hw _ (List.mem_of_getElem? (i := 72) rfl))) Via.refl (rfl : T220.heap = T220.heap) f222 (g := (mkF m 10 #[.val (.ref a)] [(.ref a)])) rfl rfl (hb hby own_d6_10)
  refine own_go (B := T223.setTop (mkF m 13 #[.val (.ref a)] [(.ref ch)])) (fun t k => st223 _ k) ?_
  have f224 := (E7.keep Kc220)
  have f225 := (F8.keep Kc220 (ninS (ne_exa f224 Q220_0 (by decide)) nin0))
  obtain ⟨cq226, kq226, q226a, q226b, q226c⟩ := isOf hZ e223 f224
  obtain ⟨_, _, ⟨T226, L226, k226, n226⟩, -, X226, ⟨Lc226, hQ226, l226, y226, z226⟩, st226⟩ := X223.virtualBack hx (y := (⟨"java/util/BitSet", "clear", "()V"⟩ : MethodName)) (z := (⟨"java/util/BitSet", "clear", "()V"⟩ : MethodName)) hown (mvT hZ (hw _ (List.mem_of_getElem? (i := 145) rfl))) (mvT hZ (hw _ (List.mem_of_getElem? (i := 146) rfl))) (notFace_of_selects (args := #[]) (mvT hZ (hw _ (List.mem_of_getElem? (i := 148) rfl)))) (mvT hZ (hw _ (List.mem_of_getElem? (i := 148) rfl))) (mvT hZ (hw _ (List.mem_of_getElem? (i := 147) rfl))) (by decide) (backOf (W := 0) (own_rm_bsc l Z a0 hw [] ch T220.heap n0 O220 f225) hZ (hw _ (List.mem_of_getElem? (i := 149) rfl)) (hw _ (List.mem_of_getElem? (i := 52) rfl)) (by decide) (by decide)) q226a q226c (g := (mkF m 13 #[.val (.ref a)] [(.ref ch)])) rfl (by rw [hml]; rfl) (Steps.refl _) (argsL := []) (rest := []) (lenOf own_pd_0 rfl) rfl (by show 2 * 0 + _ ≤ _; exact Nat.le_of_eq rfl) (hb hby own_d6_13) (fun _ _ => ⟨rfl, e223, (by decide : 0 + 0 ≤ _), (by decide : 0 + 0 ≤ _)⟩)
  dsimp only [Pt.U, Pt.locs, Pt.cells, Pt.slots] at X226 l226 y226 z226 st226 hQ226
  subst l226 y226 z226
  obtain ⟨rfl, N226q, eh226⟩ := hQ226
  have N226 := Fr.app N220 N226q
  refine own_go (B := T226.setTop (mkF m 16 #[.val (.ref a)] [])) (fun t k => st226.trans k) ?_
  obtain ⟨fs, hr, hrun, hended, hW, hsame⟩ := X226.leave (v := none) (fun _ => rfl)
  refine ⟨_, _, X226.returnOut hx Bd.returns (hb hby own_d6_16) hr, hK _ _ ⟨hrun, hended, _, _, rfl, ?_, ⟨_, rfl⟩, hW, hsame.mono (by decide) (by decide)⟩⟩
  show own_Q_ulc Z a en ch w_DEF h0 n0 _ T226.heap _
  rw [eh226]
  exact ⟨rfl, N226, K220, Q220_0⟩
theorem own_d18_0 : decode jdk_69_method_22_code 0 = .ok (.aload_n 0, 1) := by decide +kernel
theorem own_d18_1 : decode jdk_69_method_22_code 1 = .ok (.dup, 1) := by decide +kernel
theorem own_d18_2 : decode jdk_69_method_22_code 2 = .ok (.getfield 202, 3) := by decide +kernel
theorem own_d18_5 : decode jdk_69_method_22_code 5 = .ok (.iconst 1, 1) := by decide +kernel
theorem own_d18_6 : decode jdk_69_method_22_code 6 = .ok (.iadd, 1) := by decide +kernel
theorem own_d18_7 : decode jdk_69_method_22_code 7 = .ok (.putfield 202, 3) := by decide +kernel
theorem own_d18_10 : decode jdk_69_method_22_code 10 = .ok (.aload_n 0, 1) := by decide +kernel
theorem own_d18_11 : decode jdk_69_method_22_code 11 = .ok (.getfield 105, 3) := by decide +kernel
theorem own_d18_14 : decode jdk_69_method_22_code 14 = .ok (.dup, 1) := by decide +kernel
theorem own_d18_15 : decode jdk_69_method_22_code 15 = .ok (.astore_n 1, 1) := by decide +kernel
theorem own_d18_16 : decode jdk_69_method_22_code 16 = .ok (.ifnull 33, 3) := by decide +kernel
theorem own_d18_49 : decode jdk_69_method_22_code 49 = .ok (.return_, 1) := by decide +kernel
theorem own_ef_hmc (m : MethodId) (x0 : Addr)  : entryFrame m #[(.ref x0)] 3 = mkF m 0 #[.val (.ref x0), .unset, .unset] [] := by first | (simp [entryFrame, mkF, argsToLocals, Value.category]; done) | rfl
def own_Q_hmc (Z : State) (a : Addr) (h0 : Heap) (n0 : Nat) (v : Option Value) (h : Heap) (L : List Loc) : Prop := v = none ∧ Fr n0 L ∧ Keep h0 h [a] ∧ Exa Z h a "java/util/LinkedHashMap" ∧ Fld Z h a "java/util/LinkedHashMap" "head" "Ljava/util/LinkedHashMap$Entry;" .null ∧ Fld Z h a "java/util/LinkedHashMap" "tail" "Ljava/util/LinkedHashMap$Entry;" .null
set_option maxRecDepth 65536 in
set_option maxHeartbeats 40000000 in
theorem own_rm_hmc (l : Launch) (Z : State) (a0 : Array Value) (hw : ∀ d ∈ tables_1, d.before a0 Z = true) (ws : List Jvm.Cond) (a : Addr) (h0 : Heap) (n0 : Nat) (O0 : Old Z n0 h0) (E0 : Exa Z h0 a "java/util/LinkedHashMap") (F1 : Fld Z h0 a "java/util/HashMap" "modCount" "I" (.int (0 : Int32))) (F2 : Fld Z h0 a "java/util/HashMap" "table" "[Ljava/util/HashMap$Node;" .null) (F3 : Fld Z h0 a "java/util/LinkedHashMap" "head" "Ljava/util/LinkedHashMap$Entry;" .null) (F4 : Fld Z h0 a "java/util/LinkedHashMap" "tail" "Ljava/util/LinkedHashMap$Entry;" .null) (G5 : n0 ≤ a) :
    MetFree l (⟨"java/util/HashMap", "clear", "()V"⟩ : MethodName) (head1 (Jvm.Cond.code (⟨"java/util/HashMap", "clear", "()V"⟩ : MethodName) jdk_69_method_22_code 3 none :: ws) ({ frames := 0, cells := 0, slots := 0, locals := 0 } : Room)) (fun ar9 U => ar9 = #[(.ref a)] ∧ Z.Warmed39 U.vm ∧ U.heap = h0) (fun _ _ _ _ _ => True) (fun _ U o U' => ∃ v L, o = .returned v ∧ own_Q_hmc Z a h0 n0 v U'.heap L ∧ FrameEnd U o U' L ({ frames := 0, cells := 0, slots := 0, locals := 0 } : Room).cells ({ frames := 0, cells := 0, slots := 0, locals := 0 } : Room).slots) := by
  refine MetFree.of_bodySF (plainFor_of_name own_pn_5) hisR ?_
  intro p e s m args below meth c s₁ Bd hml0 hP hK0
  obtain ⟨rfl, hZ, hh⟩ := hP
  have hx := Bd.exec
  have hby := Bd.bytes
  have hml : c.maxLocals = 3 := hml0
  have hown : s.vm.findClass "java/util/HashMap" = some m.cls := findClass_of_methodNamed Bd.named
  have hnm := (name_of_methodNamed Bd.named Bd.method).1
  have X0 : Stand p l e ({ frames := 0, cells := 0, slots := 0, locals := 0 } : Room) s m #[(.ref a)] below meth c s₁ [] 0 0 := Stand.of_body Bd
  have e0 : s₁.heap = h0 := by rw [← hh, Bd.state]; rfl
  have N0 := Fr.nil n0
  have K0 := Keep.refl h0 [a]
  refine own_open fun K hK => ?_
  refine own_go (B := s₁.setTop (mkF m 0 #[.val (.ref a), .unset, .unset] [])) (fun t k => castTop (own_ef_hmc m a) k) ?_
  refine own_go (B := s₁.setTop (mkF m 1 #[.val (.ref a), .unset, .unset] [(.ref a)])) (fun t k => XS.aloadN X0.here hx rfl (hb hby own_d18_0) rfl rfl k) ?_
  refine own_go (B := s₁.setTop (mkF m 2 #[.val (.ref a), .unset, .unset] [(.ref a), (.ref a)])) (fun t k => XS.dup X0.here hx rfl (hb hby own_d18_1) rfl rfl k) ?_
  obtain ⟨T228, X228, e228, st228⟩ := getF X0 hx hZ hown (host := "") (Or.inl (hw _ (List.mem_of_getElem? (i := 164) rfl))) Via.refl e0 F1 (g := (mkF m 2 #[.val (.ref a), .unset, .unset] [(.ref a), (.ref a)])) rfl rfl (hb hby own_d18_2)
  refine own_go (B := T228.setTop (mkF m 5 #[.val (.ref a), .unset, .unset] [(.int (0 : Int32)), (.ref a)])) (fun t k => st228 _ k) ?_
  refine own_go (B := T228.setTop (mkF m 6 #[.val (.ref a), .unset, .unset] [(.int (1 : Int32)), (.int (0 : Int32)), (.ref a)])) (fun t k => XS.iconst X228.here hx rfl (hb hby own_d18_5) k) ?_
  refine own_go (B := T228.setTop (mkF m 7 #[.val (.ref a), .unset, .unset] [(.int ((0 : Int32) + (1 : Int32))), (.ref a)])) (fun t k => XS.iadd X228.here hx rfl (hb hby own_d18_6) rfl k) ?_
  obtain ⟨T229, h229, X229, e229, W229, st229⟩ := putF X228 hx hZ hown (host := "") (Or.inl (hw _ (List.mem_of_getElem? (i := 164) rfl))) Via.refl e228 F1 E0 (Or.inl (hw _ (List.mem_of_getElem? (i := 165) rfl))) (hw _ (List.mem_of_getElem? (i := 77) rfl)) (ty := .int) (by decide) rfl rfl (g := (mkF m 7 #[.val (.ref a), .unset, .unset] [(.int ((0 : Int32) + (1 : Int32))), (.ref a)])) rfl rfl (hb hby own_d18_7)
  have Fw229 := F1.same W229
  have N229 := Fr.snoc X229 N0 G5
  have O229 := O0.wr W229 G5
  have K229 := K0.wr W229 (Or.inl (by simp))
  refine own_go (B := T229.setTop (mkF m 10 #[.val (.ref a), .unset, .unset] [])) (fun t k => st229 _ k) ?_
  refine own_go (B := T229.setTop (mkF m 11 #[.val (.ref a), .unset, .unset] [(.ref a)])) (fun t k => XS.aloadN X229.here hx rfl (hb hby own_d18_10) rfl rfl k) ?_
  have f230 := (F2.other W229 (Or.inr (slot_ne (Or.inl (hw _ (List.mem_of_getElem? (i := 167) rfl))) (Or.inl (hw _ (List.mem_of_getElem? (i := 165) rfl))) (by decide) (t := (.array (.object "java/util/HashMap$Node"))) (t' := .int) (by decide) (by decide))))
  obtain ⟨T231, X231, e231, st231⟩ := getF X229 hx hZ hown (host := "") (Or.inl (hw _ (List.mem_of_getElem? (i := 166) rfl))) Via.refl e229 f230 (g := (mkF m 11 #[.val (.ref a), .unset, .unset] [(.ref a)])) rfl rfl (hb hby own_d18_11)
  refine own_go (B := T231.setTop (mkF m 14 #[.val (.ref a), .unset, .unset] [.null])) (fun t k => st231 _ k) ?_
  refine own_go (B := T231.setTop (mkF m 15 #[.val (.ref a), .unset, .unset] [.null, .null])) (fun t k => XS.dup X231.here hx rfl (hb hby own_d18_14) rfl rfl k) ?_
  refine own_go (B := T231.setTop (mkF m 16 #[.val (.ref a), .val .null, .unset] [.null])) (fun t k => XS.astoreN X231.here hx rfl (hb hby own_d18_15) rfl rfl (l' := #[.val (.ref a), .val .null, .unset]) rfl k) ?_
  refine own_go (B := T231.setTop (mkF m 49 #[.val (.ref a), .val .null, .unset] [])) (fun t k => XS.ifnullYes X231.here hx rfl (pc0 := 16) (pc' := 49) rfl (hb hby own_d18_16) rfl (by decide) (by decide) k) ?_
  obtain ⟨fs, hr, hrun, hended, hW, hsame⟩ := X231.leave (v := none) (fun _ => rfl)
  have f233 := (E0.wr W229)
  have f234 := (F3.other W229 (Or.inr (slot_ne (Or.inl (hw _ (List.mem_of_getElem? (i := 171) rfl))) (Or.inl (hw _ (List.mem_of_getElem? (i := 165) rfl))) (by decide) (t := (.object "java/util/LinkedHashMap$Entry")) (t' := .int) (by decide) (by decide))))
  have f235 := (F4.other W229 (Or.inr (slot_ne (Or.inl (hw _ (List.mem_of_getElem? (i := 169) rfl))) (Or.inl (hw _ (List.mem_of_getElem? (i := 165) rfl))) (by decide) (t := (.object "java/util/LinkedHashMap$Entry")) (t' := .int) (by decide) (by decide))))
  refine ⟨_, _, X231.returnOut hx Bd.returns (hb hby own_d18_49) hr, hK _ _ ⟨hrun, hended, _, _, rfl, ?_, ⟨_, rfl⟩, hW, hsame.mono (by decide) (by decide)⟩⟩
  show own_Q_hmc Z a h0 n0 _ T231.heap _
  rw [e231]
  exact ⟨rfl, N229, K229, f233, f234, f235⟩
theorem own_d20_0 : decode jdk_94_method_22_code 0 = .ok (.aload_n 0, 1) := by decide +kernel
theorem own_d20_1 : decode jdk_94_method_22_code 1 = .ok (.invokespecial 110, 3) := by decide +kernel
theorem own_d20_4 : decode jdk_94_method_22_code 4 = .ok (.aload_n 0, 1) := by decide +kernel
theorem own_d20_5 : decode jdk_94_method_22_code 5 = .ok (.aload_n 0, 1) := by decide +kernel
theorem own_d20_6 : decode jdk_94_method_22_code 6 = .ok (.aconst_null, 1) := by decide +kernel
theorem own_d20_7 : decode jdk_94_method_22_code 7 = .ok (.dup_x1, 1) := by decide +kernel
theorem own_d20_8 : decode jdk_94_method_22_code 8 = .ok (.putfield 11, 3) := by decide +kernel
theorem own_d20_11 : decode jdk_94_method_22_code 11 = .ok (.putfield 7, 3) := by decide +kernel
theorem own_d20_14 : decode jdk_94_method_22_code 14 = .ok (.return_, 1) := by decide +kernel
theorem own_ef_lhc (m : MethodId) (x0 : Addr)  : entryFrame m #[(.ref x0)] 1 = mkF m 0 #[.val (.ref x0)] [] := by first | (simp [entryFrame, mkF, argsToLocals, Value.category]; done) | rfl
def own_Q_lhc (Z : State) (a : Addr) (h0 : Heap) (n0 : Nat) (v : Option Value) (h : Heap) (L : List Loc) : Prop := v = none ∧ Fr n0 L ∧ Keep h0 h [a] ∧ Exa Z h a "java/util/LinkedHashMap"
set_option maxRecDepth 65536 in
set_option maxHeartbeats 40000000 in
theorem own_rm_lhc (l : Launch) (Z : State) (a0 : Array Value) (hw : ∀ d ∈ tables_1, d.before a0 Z = true) (ws : List Jvm.Cond) (a : Addr) (h0 : Heap) (n0 : Nat) (O0 : Old Z n0 h0) (E0 : Exa Z h0 a "java/util/LinkedHashMap") (F1 : Fld Z h0 a "java/util/HashMap" "modCount" "I" (.int (0 : Int32))) (F2 : Fld Z h0 a "java/util/HashMap" "table" "[Ljava/util/HashMap$Node;" .null) (F3 : Fld Z h0 a "java/util/LinkedHashMap" "head" "Ljava/util/LinkedHashMap$Entry;" .null) (F4 : Fld Z h0 a "java/util/LinkedHashMap" "tail" "Ljava/util/LinkedHashMap$Entry;" .null) (G5 : n0 ≤ a) :
    MetFree l (⟨"java/util/LinkedHashMap", "clear", "()V"⟩ : MethodName) (head1 (Jvm.Cond.code (⟨"java/util/LinkedHashMap", "clear", "()V"⟩ : MethodName) jdk_94_method_22_code 1 none :: ws) ({ frames := 1, cells := 0, slots := 0, locals := 14 } : Room)) (fun ar9 U => ar9 = #[(.ref a)] ∧ Z.Warmed39 U.vm ∧ U.heap = h0) (fun _ _ _ _ _ => True) (fun _ U o U' => ∃ v L, o = .returned v ∧ own_Q_lhc Z a h0 n0 v U'.heap L ∧ FrameEnd U o U' L ({ frames := 1, cells := 0, slots := 0, locals := 14 } : Room).cells ({ frames := 1, cells := 0, slots := 0, locals := 14 } : Room).slots) := by
  refine MetFree.of_bodySF (plainFor_of_name own_pn_6) hisR ?_
  intro p e s m args below meth c s₁ Bd hml0 hP hK0
  obtain ⟨rfl, hZ, hh⟩ := hP
  have hx := Bd.exec
  have hby := Bd.bytes
  have hml : c.maxLocals = 1 := hml0
  have hown : s.vm.findClass "java/util/LinkedHashMap" = some m.cls := findClass_of_methodNamed Bd.named
  have hnm := (name_of_methodNamed Bd.named Bd.method).1
  have X0 : Stand p l e ({ frames := 1, cells := 0, slots := 0, locals := 14 } : Room) s m #[(.ref a)] below meth c s₁ [] 0 0 := Stand.of_body Bd
  have e0 : s₁.heap = h0 := by rw [← hh, Bd.state]; rfl
  have N0 := Fr.nil n0
  have K0 := Keep.refl h0 [a]
  refine own_open fun K hK => ?_
  refine own_go (B := s₁.setTop (mkF m 0 #[.val (.ref a)] [])) (fun t k => castTop (own_ef_lhc m a) k) ?_
  refine own_go (B := s₁.setTop (mkF m 1 #[.val (.ref a)] [(.ref a)])) (fun t k => XS.aloadN X0.here hx rfl (hb hby own_d20_0) rfl rfl k) ?_
  have lt_a_236 := E0.lt
  obtain ⟨_, _, ⟨T237, L237, k237, n237⟩, -, X237, ⟨Lc237, hQ237, l237, y237, z237⟩, st237⟩ := own_superBack X0 hx hZ (y := (⟨"java/util/HashMap", "clear", "()V"⟩ : MethodName)) (by decide) hown (hw _ (List.mem_of_getElem? (i := 159) rfl)) (hw _ (List.mem_of_getElem? (i := 160) rfl)) (hw _ (List.mem_of_getElem? (i := 163) rfl)) (hw _ (List.mem_of_getElem? (i := 161) rfl)) (by decide) (backOf (W := 0) (own_rm_hmc l Z a0 hw [] a h0 n0 O0 E0 F1 F2 F3 F4 G5) hZ (hw _ (List.mem_of_getElem? (i := 163) rfl)) (hw _ (List.mem_of_getElem? (i := 86) rfl)) (by decide) (by decide)) e0 E0 (g := (mkF m 1 #[.val (.ref a)] [(.ref a)])) rfl (by rw [hml]; rfl) (Steps.refl _) (a := a) (argsL := []) (rest := []) (lenOf own_pd_0 rfl) rfl (by show 2 * 0 + _ ≤ _; exact Nat.le_of_eq rfl) (hb hby own_d20_1) (fun _ _ => ⟨rfl, e0, (by decide : 0 + 0 ≤ _), (by decide : 0 + 0 ≤ _)⟩)
  dsimp only [Pt.U, Pt.locs, Pt.cells, Pt.slots] at X237 l237 y237 z237 st237 hQ237
  subst l237 y237 z237
  obtain ⟨rfl, N237q, Kc237, Q237_0, Q237_1, Q237_2⟩ := hQ237
  have O237 := O0.keep Kc237 (allS G5 all0)
  have K237 := K0.trans Kc237 (allS (Or.inl (by simp)) all0)
  have N237 := Fr.app N0 N237q
  refine own_go (B := T237.setTop (mkF m 4 #[.val (.ref a)] [])) (fun t k => st237.trans k) ?_
  refine own_go (B := T237.setTop (mkF m 5 #[.val (.ref a)] [(.ref a)])) (fun t k => XS.aloadN X237.here hx rfl (hb hby own_d20_4) rfl rfl k) ?_
  refine own_go (B := T237.setTop (mkF m 6 #[.val (.ref a)] [(.ref a), (.ref a)])) (fun t k => XS.aloadN X237.here hx rfl (hb hby own_d20_5) rfl rfl k) ?_
  refine own_go (B := T237.setTop (mkF m 7 #[.val (.ref a)] [.null, (.ref a), (.ref a)])) (fun t k => XS.aconstNull X237.here hx rfl (hb hby own_d20_6) k) ?_
  refine own_go (B := T237.setTop (mkF m 8 #[.val (.ref a)] [.null, (.ref a), .null, (.ref a)])) (fun t k => XS.dupX1 X237.here hx rfl (hb hby own_d20_7) rfl rfl rfl k) ?_
  obtain ⟨T238, h238, X238, e238, W238, st238⟩ := putF X237 hx hZ hown (host := "") (Or.inl (hw _ (List.mem_of_getElem? (i := 168) rfl))) Via.refl (rfl : T237.heap = T237.heap) Q237_2 Q237_0 (Or.inl (hw _ (List.mem_of_getElem? (i := 169) rfl))) (hw _ (List.mem_of_getElem? (i := 77) rfl)) (ty := (.object "java/util/LinkedHashMap$Entry")) (by decide) rfl rfl (g := (mkF m 8 #[.val (.ref a)] [.null, (.ref a), .null, (.ref a)])) rfl rfl (hb hby own_d20_8)
  have Fw238 := Q237_2.same W238
  have N238 := Fr.snoc X238 N237 G5
  have O238 := O237.wr W238 G5
  have K238 := K237.wr W238 (Or.inl (by simp))
  refine own_go (B := T238.setTop (mkF m 11 #[.val (.ref a)] [.null, (.ref a)])) (fun t k => st238 _ k) ?_
  have f239 := (Q237_1.other W238 (Or.inr (slot_ne (Or.inl (hw _ (List.mem_of_getElem? (i := 171) rfl))) (Or.inl (hw _ (List.mem_of_getElem? (i := 169) rfl))) (by decide) (t := (.object "java/util/LinkedHashMap$Entry")) (t' := (.object "java/util/LinkedHashMap$Entry")) (by decide) (by decide))))
  have f240 := (Q237_0.wr W238)
  obtain ⟨T241, h241, X241, e241, W241, st241⟩ := putF X238 hx hZ hown (host := "") (Or.inl (hw _ (List.mem_of_getElem? (i := 170) rfl))) Via.refl e238 f239 f240 (Or.inl (hw _ (List.mem_of_getElem? (i := 171) rfl))) (hw _ (List.mem_of_getElem? (i := 77) rfl)) (ty := (.object "java/util/LinkedHashMap$Entry")) (by decide) rfl rfl (g := (mkF m 11 #[.val (.ref a)] [.null, (.ref a)])) rfl rfl (hb hby own_d20_11)
  have Fw241 := f239.same W241
  have N241 := Fr.snoc X241 N238 G5
  have O241 := O238.wr W241 G5
  have K241 := K238.wr W241 (Or.inl (by simp))
  refine own_go (B := T241.setTop (mkF m 14 #[.val (.ref a)] [])) (fun t k => st241 _ k) ?_
  obtain ⟨fs, hr, hrun, hended, hW, hsame⟩ := X241.leave (v := none) (fun _ => rfl)
  have f243 := (f240.wr W241)
  refine ⟨_, _, X241.returnOut hx Bd.returns (hb hby own_d20_14) hr, hK _ _ ⟨hrun, hended, _, _, rfl, ?_, ⟨_, rfl⟩, hW, hsame.mono (by decide) (by decide)⟩⟩
  show own_Q_lhc Z a h0 n0 _ T241.heap _
  rw [e241]
  exact ⟨rfl, N241, K241, f243⟩
theorem own_d1_0 : decode prog_55_method_18_code 0 = .ok (.aload_n 0, 1) := by decide +kernel
theorem own_d1_1 : decode prog_55_method_18_code 1 = .ok (.lload_n 1, 1) := by decide +kernel
theorem own_d1_2 : decode prog_55_method_18_code 2 = .ok (.putfield 29, 3) := by decide +kernel
theorem own_d1_5 : decode prog_55_method_18_code 5 = .ok (.aload_n 0, 1) := by decide +kernel
theorem own_d1_6 : decode prog_55_method_18_code 6 = .ok (.getfield 10, 3) := by decide +kernel
theorem own_d1_9 : decode prog_55_method_18_code 9 = .ok (.invokevirtual 104, 3) := by decide +kernel
theorem own_d1_12 : decode prog_55_method_18_code 12 = .ok (.aload_n 0, 1) := by decide +kernel
theorem own_d1_13 : decode prog_55_method_18_code 13 = .ok (.getfield 19, 3) := by decide +kernel
theorem own_d1_16 : decode prog_55_method_18_code 16 = .ok (.invokeinterface 79 1, 5) := by decide +kernel
theorem own_d1_21 : decode prog_55_method_18_code 21 = .ok (.return_, 1) := by decide +kernel
theorem own_ef_commit (m : MethodId) (x0 : Addr) (x1 : Int64)  : entryFrame m #[(.ref x0), (.long x1)] 3 = mkF m 0 #[.val (.ref x0), .val (.long x1), .second] [] := by first | (simp [entryFrame, mkF, argsToLocals, Value.category]; done) | rfl
def own_Q_commit (Z : State) (a un wr en ch w_DEF : Addr) (cn : Int64) (h0 : Heap) (n0 : Nat) (v : Option Value) (h : Heap) (L : List Loc) : Prop := v = none ∧ Fr n0 L ∧ Keep h0 h [a, en, wr] ∧ Exa Z h a "com/example/interleave/interleave/engine/Transaction" ∧ Fld Z h a "com/example/interleave/interleave/engine/Transaction" "commitNumber" "J" (.long cn)
set_option maxRecDepth 65536 in
set_option maxHeartbeats 40000000 in
theorem own_rm_commit (l : Launch) (Z : State) (a0 : Array Value) (hw : ∀ d ∈ tables_1, d.before a0 Z = true) (ws : List Jvm.Cond) (a un wr en ch w_DEF : Addr) (cn : Int64) (h0 : Heap) (n0 : Nat) (O0 : Old Z n0 h0) (E0 : Exa Z h0 a "com/example/interleave/interleave/engine/Transaction") (F1 : Fld Z h0 a "com/example/interleave/interleave/engine/Transaction" "undo" "Lcom/example/interleave/interleave/engine/UndoLog;" (.ref un)) (F2 : Fld Z h0 a "com/example/interleave/interleave/engine/Transaction" "written" "Ljava/util/Map;" (.ref wr)) (F3 : Fld Z h0 a "com/example/interleave/interleave/engine/Transaction" "commitNumber" "J" (.long (0 : Int64))) (E4 : Exa Z h0 un "com/example/interleave/interleave/engine/UndoLog") (F5 : Fld Z h0 un "com/example/interleave/interleave/engine/UndoLog" "entries" "Ljava/util/List;" (.ref en)) (F6 : Fld Z h0 un "com/example/interleave/interleave/engine/UndoLog" "changes" "Ljava/util/BitSet;" (.ref ch)) (E7 : Exa Z h0 en "java/util/ArrayList") (F8 : Fld Z h0 en "java/util/AbstractList" "modCount" "I" (.int (0 : Int32))) (F9 : Fld Z h0 en "java/util/ArrayList" "elementData" "[Ljava/lang/Object;" (.ref w_DEF)) (F10 : Fld Z h0 en "java/util/ArrayList" "size" "I" (.int (0 : Int32))) (E11 : Exa Z h0 ch "java/util/BitSet") (F12 : Fld Z h0 ch "java/util/BitSet" "wordsInUse" "I" (.int (0 : Int32))) (E13 : Exa Z h0 wr "java/util/LinkedHashMap") (F14 : Fld Z h0 wr "java/util/HashMap" "modCount" "I" (.int (0 : Int32))) (F15 : Fld Z h0 wr "java/util/HashMap" "table" "[Ljava/util/HashMap$Node;" .null) (F16 : Fld Z h0 wr "java/util/LinkedHashMap" "head" "Ljava/util/LinkedHashMap$Entry;" .null) (F17 : Fld Z h0 wr "java/util/LinkedHashMap" "tail" "Ljava/util/LinkedHashMap$Entry;" .null) (G18 : n0 ≤ a) (G19 : n0 ≤ wr) (G20 : n0 ≤ en) :
    MetFree l (⟨"com/example/interleave/interleave/engine/Transaction", "commit", "(J)V"⟩ : MethodName) (head1 (Jvm.Cond.code (⟨"com/example/interleave/interleave/engine/Transaction", "commit", "(J)V"⟩ : MethodName) prog_55_method_18_code 3 none :: ws) ({ frames := 2, cells := 0, slots := 0, locals := 27 } : Room)) (fun ar9 U => ar9 = #[(.ref a), (.long cn)] ∧ Z.Warmed39 U.vm ∧ U.heap = h0) (fun _ _ _ _ _ => True) (fun _ U o U' => ∃ v L, o = .returned v ∧ own_Q_commit Z a un wr en ch w_DEF cn h0 n0 v U'.heap L ∧ FrameEnd U o U' L ({ frames := 2, cells := 0, slots := 0, locals := 27 } : Room).cells ({ frames := 2, cells := 0, slots := 0, locals := 27 } : Room).slots) := by
  refine MetFree.of_bodySF (plainFor_of_name own_pn_8) hisR ?_
  intro p e s m args below meth c s₁ Bd hml0 hP hK0
  obtain ⟨rfl, hZ, hh⟩ := hP
  have hx := Bd.exec
  have hby := Bd.bytes
  have hml : c.maxLocals = 3 := hml0
  have hown : s.vm.findClass "com/example/interleave/interleave/engine/Transaction" = some m.cls := findClass_of_methodNamed Bd.named
  have hnm := (name_of_methodNamed Bd.named Bd.method).1
  have X0 : Stand p l e ({ frames := 2, cells := 0, slots := 0, locals := 27 } : Room) s m #[(.ref a), (.long cn)] below meth c s₁ [] 0 0 := Stand.of_body Bd
  have e0 : s₁.heap = h0 := by rw [← hh, Bd.state]; rfl
  have N0 := Fr.nil n0
  have K0 := Keep.refl h0 [a, en, wr]
  refine own_open fun K hK => ?_
  refine own_go (B := s₁.setTop (mkF m 0 #[.val (.ref a), .val (.long cn), .second] [])) (fun t k => castTop (own_ef_commit m a cn) k) ?_
  refine own_go (B := s₁.setTop (mkF m 1 #[.val (.ref a), .val (.long cn), .second] [(.ref a)])) (fun t k => XS.aloadN X0.here hx rfl (hb hby own_d1_0) rfl rfl k) ?_
  refine own_go (B := s₁.setTop (mkF m 2 #[.val (.ref a), .val (.long cn), .second] [(.long cn), (.ref a)])) (fun t k => XS.lloadN X0.here hx rfl (hb hby own_d1_1) rfl k) ?_
  obtain ⟨T244, h244, X244, e244, W244, st244⟩ := putF X0 hx hZ hown (host := "") (Or.inl (hw _ (List.mem_of_getElem? (i := 107) rfl))) Via.refl e0 F3 E0 (Or.inl (hw _ (List.mem_of_getElem? (i := 108) rfl))) (hw _ (List.mem_of_getElem? (i := 9) rfl)) (ty := .long) (by decide) rfl rfl (g := (mkF m 2 #[.val (.ref a), .val (.long cn), .second] [(.long cn), (.ref a)])) rfl rfl (hb hby own_d1_2)
  have Fw244 := F3.same W244
  have N244 := Fr.snoc X244 N0 G18
  have O244 := O0.wr W244 G18
  have K244 := K0.wr W244 (Or.inl (by simp))
  refine own_go (B := T244.setTop (mkF m 5 #[.val (.ref a), .val (.long cn), .second] [])) (fun t k => st244 _ k) ?_
  refine own_go (B := T244.setTop (mkF m 6 #[.val (.ref a), .val (.long cn), .second] [(.ref a)])) (fun t k => XS.aloadN X244.here hx rfl (hb hby own_d1_5) rfl rfl k) ?_
  have f245 := (F1.other W244 (Or.inr (slot_ne (Or.inr (hw _ (List.mem_of_getElem? (i := 75) rfl))) (Or.inl (hw _ (List.mem_of_getElem? (i := 108) rfl))) (by decide) (t := (.object "com/example/interleave/interleave/engine/UndoLog")) (t' := .long) (by decide) (by decide))))
  obtain ⟨T246, X246, e246, st246⟩ := getF X244 hx hZ hown (host := "") (Or.inl (hw _ (List.mem_of_getElem? (i := 74) rfl))) Via.refl e244 f245 (g := (mkF m 6 #[.val (.ref a), .val (.long cn), .second] [(.ref a)])) rfl rfl (hb hby own_d1_6)
  refine own_go (B := T246.setTop (mkF m 9 #[.val (.ref a), .val (.long cn), .second] [(.ref un)])) (fun t k => st246 _ k) ?_
  have f247 := (E4.wr W244)
  have f248 := (E0.wr W244)
  have f249 := (F5.other W244 (Or.inl (ne_exa f247 f248 (by decide))))
  have f250 := (F6.other W244 (Or.inl (ne_exa f247 f248 (by decide))))
  have f251 := (E7.wr W244)
  have f252 := (F8.other W244 (Or.inl (ne_exa f251 f248 (by decide))))
  have f253 := (F9.other W244 (Or.inl (ne_exa f251 f248 (by decide))))
  have f254 := (F10.other W244 (Or.inl (ne_exa f251 f248 (by decide))))
  have f255 := (E11.wr W244)
  have f256 := (F12.other W244 (Or.inl (ne_exa f255 f248 (by decide))))
  have lt_a_257 := f248.lt
  have lt_un_257 := f247.lt
  have lt_en_257 := f251.lt
  have lt_ch_257 := f255.lt
  have f258 := (E13.wr W244)
  have lt_wr_257 := f258.lt
  obtain ⟨cq259, kq259, q259a, q259b, q259c⟩ := isOf hZ e246 f247
  obtain ⟨_, _, ⟨T259, L259, k259, n259⟩, -, X259, ⟨Lc259, hQ259, l259, y259, z259⟩, st259⟩ := X246.virtualBack hx (y := (⟨"com/example/interleave/interleave/engine/UndoLog", "clear", "()V"⟩ : MethodName)) (z := (⟨"com/example/interleave/interleave/engine/UndoLog", "clear", "()V"⟩ : MethodName)) hown (mvT hZ (hw _ (List.mem_of_getElem? (i := 127) rfl))) (mvT hZ (hw _ (List.mem_of_getElem? (i := 128) rfl))) (notFace_of_selects (args := #[]) (mvT hZ (hw _ (List.mem_of_getElem? (i := 130) rfl)))) (mvT hZ (hw _ (List.mem_of_getElem? (i := 130) rfl))) (mvT hZ (hw _ (List.mem_of_getElem? (i := 129) rfl))) (by decide) (backOf (W := 0) (own_rm_ulc l Z a0 hw [] un en ch w_DEF h244 n0 O244 f247 f249 f250 f251 f252 f253 f254 f255 f256 G20) hZ (hw _ (List.mem_of_getElem? (i := 131) rfl)) (hw _ (List.mem_of_getElem? (i := 19) rfl)) (by decide) (by decide)) q259a q259c (g := (mkF m 9 #[.val (.ref a), .val (.long cn), .second] [(.ref un)])) rfl (by rw [hml]; rfl) (Steps.refl _) (argsL := []) (rest := []) (lenOf own_pd_0 rfl) rfl (by show 2 * 0 + _ ≤ _; exact Nat.le_of_eq rfl) (hb hby own_d1_9) (fun _ _ => ⟨rfl, e246, (by decide : 0 + 0 ≤ _), (by decide : 0 + 0 ≤ _)⟩)
  dsimp only [Pt.U, Pt.locs, Pt.cells, Pt.slots] at X259 l259 y259 z259 st259 hQ259
  subst l259 y259 z259
  obtain ⟨rfl, N259q, Kc259, Q259_0⟩ := hQ259
  have O259 := O244.keep Kc259 (allS G20 all0)
  have K259 := K244.trans Kc259 (allS (Or.inl (by simp)) all0)
  have N259 := Fr.app N244 N259q
  refine own_go (B := T259.setTop (mkF m 12 #[.val (.ref a), .val (.long cn), .second] [])) (fun t k => st259.trans k) ?_
  refine own_go (B := T259.setTop (mkF m 13 #[.val (.ref a), .val (.long cn), .second] [(.ref a)])) (fun t k => XS.aloadN X259.here hx rfl (hb hby own_d1_12) rfl rfl k) ?_
  have f260 := (f248.keep Kc259)
  have f261 := ((F2.other W244 (Or.inr (slot_ne (Or.inr (hw _ (List.mem_of_getElem? (i := 103) rfl))) (Or.inl (hw _ (List.mem_of_getElem? (i := 108) rfl))) (by decide) (t := (.object "java/util/Map")) (t' := .long) (by decide) (by decide)))).keep Kc259 (ninS (ne_exa f260 Q259_0 (by decide)) nin0))
  obtain ⟨T262, X262, e262, st262⟩ := getF X259 hx hZ hown (host := "") (Or.inl (hw _ (List.mem_of_getElem? (i := 102) rfl))) Via.refl (rfl : T259.heap = T259.heap) f261 (g := (mkF m 13 #[.val (.ref a), .val (.long cn), .second] [(.ref a)])) rfl rfl (hb hby own_d1_13)
  refine own_go (B := T262.setTop (mkF m 16 #[.val (.ref a), .val (.long cn), .second] [(.ref wr)])) (fun t k => st262 _ k) ?_
  have f263 := (f258.keep Kc259)
  have f264 := ((F14.other W244 (Or.inl (ne_exa f263 f260 (by decide)))).keep Kc259 (ninS (ne_exa f263 Q259_0 (by decide)) nin0))
  have f265 := ((F15.other W244 (Or.inl (ne_exa f263 f260 (by decide)))).keep Kc259 (ninS (ne_exa f263 Q259_0 (by decide)) nin0))
  have f266 := ((F16.other W244 (Or.inl (ne_exa f263 f260 (by decide)))).keep Kc259 (ninS (ne_exa f263 Q259_0 (by decide)) nin0))
  have f267 := ((F17.other W244 (Or.inl (ne_exa f263 f260 (by decide)))).keep Kc259 (ninS (ne_exa f263 Q259_0 (by decide)) nin0))
  have lt_a_268 := f260.lt
  have f269 := (f247.keep Kc259)
  have lt_un_268 := f269.lt
  have lt_en_268 := Q259_0.lt
  have f270 := (f255.keep Kc259)
  have lt_ch_268 := f270.lt
  have lt_wr_268 := f263.lt
  obtain ⟨cq271, kq271, q271a, q271b, q271c⟩ := isOf hZ e262 f263
  obtain ⟨_, _, ⟨T271, L271, k271, n271⟩, -, X271, ⟨Lc271, hQ271, l271, y271, z271⟩, st271⟩ := X262.interfaceBack hx (xi := (⟨"java/util/Map", "clear", "()V"⟩ : MethodName)) (y := (⟨"java/util/LinkedHashMap", "clear", "()V"⟩ : MethodName)) hown (mvT hZ (hw _ (List.mem_of_getElem? (i := 150) rfl))) (mvT hZ (hw _ (List.mem_of_getElem? (i := 151) rfl))) (mvT hZ (hw _ (List.mem_of_getElem? (i := 152) rfl))) (mvT hZ (hw _ (List.mem_of_getElem? (i := 153) rfl))) (mvT hZ (hw _ (List.mem_of_getElem? (i := 154) rfl))) (mvT hZ (hw _ (List.mem_of_getElem? (i := 155) rfl))) (mvT hZ (hw _ (List.mem_of_getElem? (i := 156) rfl))) (mvT hZ (hw _ (List.mem_of_getElem? (i := 157) rfl))) (by decide) (backOf (W := 0) (own_rm_lhc l Z a0 hw [] wr T259.heap n0 O259 f263 f264 f265 f266 f267 G19) hZ (hw _ (List.mem_of_getElem? (i := 158) rfl)) (hw _ (List.mem_of_getElem? (i := 78) rfl)) (by decide) (by decide)) q271a q271b q271c (g := (mkF m 16 #[.val (.ref a), .val (.long cn), .second] [(.ref wr)])) rfl (by rw [hml]; rfl) (Steps.refl _) (argsL := []) (rest := []) (lenOf own_pd_0 rfl) rfl (by show 2 * 0 + _ ≤ _; exact Nat.le_of_eq rfl) (hb hby own_d1_16) (fun _ _ => ⟨rfl, e262, (by decide : 0 + 0 ≤ _), (by decide : 0 + 0 ≤ _)⟩)
  dsimp only [Pt.U, Pt.locs, Pt.cells, Pt.slots] at X271 l271 y271 z271 st271 hQ271
  subst l271 y271 z271
  obtain ⟨rfl, N271q, Kc271, Q271_0⟩ := hQ271
  have O271 := O259.keep Kc271 (allS G19 all0)
  have K271 := K259.trans Kc271 (allS (Or.inl (by simp)) all0)
  have N271 := Fr.app N259 N271q
  refine own_go (B := T271.setTop (mkF m 21 #[.val (.ref a), .val (.long cn), .second] [])) (fun t k => st271.trans k) ?_
  obtain ⟨fs, hr, hrun, hended, hW, hsame⟩ := X271.leave (v := none) (fun _ => rfl)
  have f273 := (f260.keep Kc271)
  have f274 := (Q259_0.keep Kc271)
  have f275 := ((Fw244.keep Kc259 (ninS (ne_exa f273 f274 (by decide)) nin0)).keep Kc271 (ninS (ne_exa f273 Q271_0 (by decide)) nin0))
  refine ⟨_, _, X271.returnOut hx Bd.returns (hb hby own_d1_21) hr, hK _ _ ⟨hrun, hended, _, _, rfl, ?_, ⟨_, rfl⟩, hW, hsame.mono (by decide) (by decide)⟩⟩
  show own_Q_commit Z a un wr en ch w_DEF cn h0 n0 _ T271.heap _
  exact ⟨rfl, N271, K271, f273, f275⟩
theorem own_d2_0 : decode prog_55_method_19_code 0 = .ok (.aload_n 0, 1) := by decide +kernel
theorem own_d2_1 : decode prog_55_method_19_code 1 = .ok (.getfield 29, 3) := by decide +kernel
theorem own_d2_4 : decode prog_55_method_19_code 4 = .ok (.lconst 0, 1) := by decide +kernel
theorem own_d2_5 : decode prog_55_method_19_code 5 = .ok (.lcmp, 1) := by decide +kernel
theorem own_d2_6 : decode prog_55_method_19_code 6 = .ok (.ifCond .eq 16, 3) := by decide +kernel
theorem own_d2_22 : decode prog_55_method_19_code 22 = .ok (.iconst 0, 1) := by decide +kernel
theorem own_d2_23 : decode prog_55_method_19_code 23 = .ok (.ireturn, 1) := by decide +kernel
theorem own_d2_9 : decode prog_55_method_19_code 9 = .ok (.aload_n 0, 1) := by decide +kernel
theorem own_d2_10 : decode prog_55_method_19_code 10 = .ok (.getfield 29, 3) := by decide +kernel
theorem own_d2_13 : decode prog_55_method_19_code 13 = .ok (.lload_n 1, 1) := by decide +kernel
theorem own_d2_14 : decode prog_55_method_19_code 14 = .ok (.lcmp, 1) := by decide +kernel
theorem own_d2_15 : decode prog_55_method_19_code 15 = .ok (.ifCond .gt 7, 3) := by decide +kernel
theorem own_d2_18 : decode prog_55_method_19_code 18 = .ok (.iconst 1, 1) := by decide +kernel
theorem own_d2_19 : decode prog_55_method_19_code 19 = .ok (.goto 4, 3) := by decide +kernel
theorem own_ef_cby (m : MethodId) (x0 : Addr) (x1 : Int64)  : entryFrame m #[(.ref x0), (.long x1)] 3 = mkF m 0 #[.val (.ref x0), .val (.long x1), .second] [] := by first | (simp [entryFrame, mkF, argsToLocals, Value.category]; done) | rfl
def own_Q_cby (Z : State) (a : Addr) (la cn : Int64) (r : Int32) (h0 : Heap) (n0 : Nat) (v : Option Value) (h : Heap) (L : List Loc) : Prop := v = some (.int r) ∧ Fr n0 L ∧ h = h0
set_option maxRecDepth 65536 in
set_option maxHeartbeats 40000000 in
theorem own_rm_cby (l : Launch) (Z : State) (a0 : Array Value) (hw : ∀ d ∈ tables_1, d.before a0 Z = true) (ws : List Jvm.Cond) (a : Addr) (la cn : Int64) (r : Int32) (h0 : Heap) (n0 : Nat) (O0 : Old Z n0 h0) (F0 : Fld Z h0 a "com/example/interleave/interleave/engine/Transaction" "commitNumber" "J" (.long cn)) (hr0 : r = if ¬ cn = (0 : Int64) ∧ ¬ la < cn then 1 else 0) :
    MetFree l (⟨"com/example/interleave/interleave/engine/Transaction", "committedBy", "(J)Z"⟩ : MethodName) (head1 (Jvm.Cond.code (⟨"com/example/interleave/interleave/engine/Transaction", "committedBy", "(J)Z"⟩ : MethodName) prog_55_method_19_code 3 (some .boolean) :: ws) ({ frames := 0, cells := 0, slots := 0, locals := 0 } : Room)) (fun ar9 U => ar9 = #[(.ref a), (.long la)] ∧ Z.Warmed39 U.vm ∧ U.heap = h0) (fun _ _ _ _ _ => True) (fun _ U o U' => ∃ v L, o = .returned v ∧ own_Q_cby Z a la cn r h0 n0 v U'.heap L ∧ FrameEnd U o U' L ({ frames := 0, cells := 0, slots := 0, locals := 0 } : Room).cells ({ frames := 0, cells := 0, slots := 0, locals := 0 } : Room).slots) := by
  refine MetFree.of_bodySF (plainFor_of_name own_pn_8) hisR ?_
  intro p e s m args below meth c s₁ Bd hml0 hP hK0
  obtain ⟨rfl, hZ, hh⟩ := hP
  have hx := Bd.exec
  have hby := Bd.bytes
  have hml : c.maxLocals = 3 := hml0
  have hown : s.vm.findClass "com/example/interleave/interleave/engine/Transaction" = some m.cls := findClass_of_methodNamed Bd.named
  have hnm := (name_of_methodNamed Bd.named Bd.method).1
  have X0 : Stand p l e ({ frames := 0, cells := 0, slots := 0, locals := 0 } : Room) s m #[(.ref a), (.long la)] below meth c s₁ [] 0 0 := Stand.of_body Bd
  have e0 : s₁.heap = h0 := by rw [← hh, Bd.state]; rfl
  have N0 := Fr.nil n0
  refine own_open fun K hK => ?_
  refine own_go (B := s₁.setTop (mkF m 0 #[.val (.ref a), .val (.long la), .second] [])) (fun t k => castTop (own_ef_cby m a la) k) ?_
  refine own_go (B := s₁.setTop (mkF m 1 #[.val (.ref a), .val (.long la), .second] [(.ref a)])) (fun t k => XS.aloadN X0.here hx rfl (hb hby own_d2_0) rfl rfl k) ?_
  obtain ⟨T276, X276, e276, st276⟩ := getF X0 hx hZ hown (host := "") (Or.inl (hw _ (List.mem_of_getElem? (i := 107) rfl))) Via.refl e0 F0 (g := (mkF m 1 #[.val (.ref a), .val (.long la), .second] [(.ref a)])) rfl rfl (hb hby own_d2_1)
  refine own_go (B := T276.setTop (mkF m 4 #[.val (.ref a), .val (.long la), .second] [(.long cn)])) (fun t k => st276 _ k) ?_
  refine own_go (B := T276.setTop (mkF m 5 #[.val (.ref a), .val (.long la), .second] [(.long (0 : Int64)), (.long cn)])) (fun t k => XS.lconst X276.here hx rfl (hb hby own_d2_4) k) ?_
  refine own_go (B := T276.setTop (mkF m 6 #[.val (.ref a), .val (.long la), .second] [(.int (lcmpW cn (0 : Int64)))])) (fun t k => XS.lcmp X276.here hx rfl (hb hby own_d2_5) rfl k) ?_
  by_cases hc6_277 : cn = (0 : Int64)
  · refine own_go (B := T276.setTop (mkF m 22 #[.val (.ref a), .val (.long la), .second] [])) (fun t k => XS.ifYes X276.here hx rfl (pc0 := 6) (pc' := 22) rfl (hb hby own_d2_6) rfl ((if0 _ _).trans (teq ((lw_eq cn (0 : Int64)).mpr hc6_277)).1) (by decide) (by decide) k) ?_
    refine own_go (B := T276.setTop (mkF m 23 #[.val (.ref a), .val (.long la), .second] [(.int (0 : Int32))])) (fun t k => XS.iconst X276.here hx rfl (hb hby own_d2_22) k) ?_
    obtain ⟨fs, hr, hrun, hended, hW, hsame⟩ := X276.leave (v := some (.int (0 : Int32))) (fun h => by rw [Bd.returns] at h; cases h)
    refine ⟨_, _, retN X276 hx (t := .boolean) Bd.returns (by simp) (hb hby own_d2_23) hr, hK _ _ ⟨hrun, hended, _, _, rfl, ?_, ⟨_, rfl⟩, hW, hsame.mono (by decide) (by decide)⟩⟩
    show own_Q_cby Z a la cn r h0 n0 _ T276.heap _
    rw [e276]
    exact ⟨(by rw [hr0]; simp only [hc6_277, true_and, and_true, and_false, false_and, not_true, not_false_iff, if_true, if_false]), N0, rfl⟩
  · refine own_go (B := T276.setTop (mkF m 9 #[.val (.ref a), .val (.long la), .second] [])) (fun t k => XS.ifNo X276.here hx rfl (hb hby own_d2_6) rfl ((if0 _ _).trans (feq (fun q => hc6_277 ((lw_eq cn (0 : Int64)).mp q))).1) k) ?_
    refine own_go (B := T276.setTop (mkF m 10 #[.val (.ref a), .val (.long la), .second] [(.ref a)])) (fun t k => XS.aloadN X276.here hx rfl (hb hby own_d2_9) rfl rfl k) ?_
    obtain ⟨T279, X279, e279, st279⟩ := getF X276 hx hZ hown (host := "") (Or.inl (hw _ (List.mem_of_getElem? (i := 107) rfl))) Via.refl e276 F0 (g := (mkF m 10 #[.val (.ref a), .val (.long la), .second] [(.ref a)])) rfl rfl (hb hby own_d2_10)
    refine own_go (B := T279.setTop (mkF m 13 #[.val (.ref a), .val (.long la), .second] [(.long cn)])) (fun t k => st279 _ k) ?_
    refine own_go (B := T279.setTop (mkF m 14 #[.val (.ref a), .val (.long la), .second] [(.long la), (.long cn)])) (fun t k => XS.lloadN X279.here hx rfl (hb hby own_d2_13) rfl k) ?_
    refine own_go (B := T279.setTop (mkF m 15 #[.val (.ref a), .val (.long la), .second] [(.int (lcmpW cn la))])) (fun t k => XS.lcmp X279.here hx rfl (hb hby own_d2_14) rfl k) ?_
    by_cases hc15_280 : la < cn
    · refine own_go (B := T279.setTop (mkF m 22 #[.val (.ref a), .val (.long la), .second] [])) (fun t k => XS.ifYes X279.here hx rfl (pc0 := 15) (pc' := 22) rfl (hb hby own_d2_15) rfl ((if0 _ _).trans (tlt ((lw_gt cn la).mpr hc15_280)).2.2.1) (by decide) (by decide) k) ?_
      refine own_go (B := T279.setTop (mkF m 23 #[.val (.ref a), .val (.long la), .second] [(.int (0 : Int32))])) (fun t k => XS.iconst X279.here hx rfl (hb hby own_d2_22) k) ?_
      obtain ⟨fs, hr, hrun, hended, hW, hsame⟩ := X279.leave (v := some (.int (0 : Int32))) (fun h => by rw [Bd.returns] at h; cases h)
      refine ⟨_, _, retN X279 hx (t := .boolean) Bd.returns (by simp) (hb hby own_d2_23) hr, hK _ _ ⟨hrun, hended, _, _, rfl, ?_, ⟨_, rfl⟩, hW, hsame.mono (by decide) (by decide)⟩⟩
      show own_Q_cby Z a la cn r h0 n0 _ T279.heap _
      rw [e279]
      exact ⟨(by rw [hr0]; simp only [hc6_277, hc15_280, true_and, and_true, and_false, false_and, not_true, not_false_iff, if_true, if_false]), N0, rfl⟩
    · refine own_go (B := T279.setTop (mkF m 18 #[.val (.ref a), .val (.long la), .second] [])) (fun t k => XS.ifNo X279.here hx rfl (hb hby own_d2_15) rfl ((if0 _ _).trans (flt (fun q => hc15_280 ((lw_gt cn la).mp q))).2.2.1) k) ?_
      refine own_go (B := T279.setTop (mkF m 19 #[.val (.ref a), .val (.long la), .second] [(.int (1 : Int32))])) (fun t k => XS.iconst X279.here hx rfl (hb hby own_d2_18) k) ?_
      refine own_go (B := T279.setTop (mkF m 23 #[.val (.ref a), .val (.long la), .second] [(.int (1 : Int32))])) (fun t k => XS.goto X279.here hx rfl (pc0 := 19) (pc' := 23) rfl (hb hby own_d2_19) (by decide) (by decide) k) ?_
      obtain ⟨fs, hr, hrun, hended, hW, hsame⟩ := X279.leave (v := some (.int (1 : Int32))) (fun h => by rw [Bd.returns] at h; cases h)
      refine ⟨_, _, retN X279 hx (t := .boolean) Bd.returns (by simp) (hb hby own_d2_23) hr, hK _ _ ⟨hrun, hended, _, _, rfl, ?_, ⟨_, rfl⟩, hW, hsame.mono (by decide) (by decide)⟩⟩
      show own_Q_cby Z a la cn r h0 n0 _ T279.heap _
      rw [e279]
      exact ⟨(by rw [hr0]; simp only [hc6_277, hc15_280, true_and, and_true, and_false, false_and, not_true, not_false_iff, if_true, if_false]), N0, rfl⟩
theorem own_d4_0 : decode method_2_code 0 = .ok (.iload_n 0, 1) := by decide +kernel
theorem own_d4_1 : decode method_2_code 1 = .ok (.ifCond .ne 7, 3) := by decide +kernel
theorem own_d4_4 : decode method_2_code 4 = .ok (.getstatic 7, 3) := by decide +kernel
theorem own_d4_7 : decode method_2_code 7 = .ok (.areturn, 1) := by decide +kernel
theorem own_d4_8 : decode method_2_code 8 = .ok (.iload_n 0, 1) := by decide +kernel
theorem own_d4_9 : decode method_2_code 9 = .ok (.iconst 1, 1) := by decide +kernel
theorem own_d4_10 : decode method_2_code 10 = .ok (.if_icmp .ne 7, 3) := by decide +kernel
theorem own_d4_13 : decode method_2_code 13 = .ok (.getstatic 13, 3) := by decide +kernel
theorem own_d4_16 : decode method_2_code 16 = .ok (.areturn, 1) := by decide +kernel
theorem own_d4_17 : decode method_2_code 17 = .ok (.iload_n 0, 1) := by decide +kernel
theorem own_d4_18 : decode method_2_code 18 = .ok (.iconst 2, 1) := by decide +kernel
theorem own_d4_19 : decode method_2_code 19 = .ok (.if_icmp .ne 7, 3) := by decide +kernel
theorem own_d4_22 : decode method_2_code 22 = .ok (.getstatic 16, 3) := by decide +kernel
theorem own_d4_25 : decode method_2_code 25 = .ok (.areturn, 1) := by decide +kernel
theorem own_d4_26 : decode method_2_code 26 = .ok (.getstatic 19, 3) := by decide +kernel
theorem own_d4_29 : decode method_2_code 29 = .ok (.areturn, 1) := by decide +kernel
theorem own_pn_9 : plainName "com/example/interleave/interleave/engine/TransactionCommittedByPinLaw" = true := by first | (simp [plainName, overriddenIn]; done) | decide +kernel
theorem own_ef_level (m : MethodId) (x0 : Int32)  : entryFrame m #[(.int x0)] 1 = mkF m 0 #[.val (.int x0)] [] := by first | (simp [entryFrame, mkF, argsToLocals, Value.category]; done) | rfl
def own_Q_level (Z : State) (q1 : Int32) (w_READ_UNCOMMITTED w_READ_COMMITTED w_REPEATABLE_READ w_SERIALIZABLE : Addr) (h0 : Heap) (n0 : Nat) (v : Option Value) (h : Heap) (L : List Loc) : Prop := ∃ r : Addr, v = some (.ref r) ∧ Fr n0 L ∧ h = h0
set_option maxRecDepth 65536 in
set_option maxHeartbeats 40000000 in
theorem own_rm_level (l : Launch) (Z : State) (a0 : Array Value) (hw : ∀ d ∈ tables_1, d.before a0 Z = true) (ws : List Jvm.Cond) (q1 : Int32) (w_READ_UNCOMMITTED w_READ_COMMITTED w_REPEATABLE_READ w_SERIALIZABLE : Addr) (h0 : Heap) (n0 : Nat) (O0 : Old Z n0 h0) (S_READ_UNCOMMITTED : Sta Z Z.heap "com/example/interleave/interleave/sql/IsolationLevel" "READ_UNCOMMITTED" "Lcom/example/interleave/interleave/sql/IsolationLevel;" (.ref w_READ_UNCOMMITTED)) (S_READ_COMMITTED : Sta Z Z.heap "com/example/interleave/interleave/sql/IsolationLevel" "READ_COMMITTED" "Lcom/example/interleave/interleave/sql/IsolationLevel;" (.ref w_READ_COMMITTED)) (S_REPEATABLE_READ : Sta Z Z.heap "com/example/interleave/interleave/sql/IsolationLevel" "REPEATABLE_READ" "Lcom/example/interleave/interleave/sql/IsolationLevel;" (.ref w_REPEATABLE_READ)) (S_SERIALIZABLE : Sta Z Z.heap "com/example/interleave/interleave/sql/IsolationLevel" "SERIALIZABLE" "Lcom/example/interleave/interleave/sql/IsolationLevel;" (.ref w_SERIALIZABLE)) :
    MetFree l (⟨"com/example/interleave/interleave/engine/TransactionCommittedByPinLaw", "level", "(I)Lcom/example/interleave/interleave/sql/IsolationLevel;"⟩ : MethodName) (head1 (Jvm.Cond.code (⟨"com/example/interleave/interleave/engine/TransactionCommittedByPinLaw", "level", "(I)Lcom/example/interleave/interleave/sql/IsolationLevel;"⟩ : MethodName) method_2_code 1 (some (.object "com/example/interleave/interleave/sql/IsolationLevel")) :: ws) ({ frames := 0, cells := 0, slots := 0, locals := 0 } : Room)) (fun ar9 U => ar9 = #[(.int q1)] ∧ Z.Warmed39 U.vm ∧ U.heap = h0) (fun _ _ _ _ _ => True) (fun _ U o U' => ∃ v L, o = .returned v ∧ own_Q_level Z q1 w_READ_UNCOMMITTED w_READ_COMMITTED w_REPEATABLE_READ w_SERIALIZABLE h0 n0 v U'.heap L ∧ FrameEnd U o U' L ({ frames := 0, cells := 0, slots := 0, locals := 0 } : Room).cells ({ frames := 0, cells := 0, slots := 0, locals := 0 } : Room).slots) := by
  refine MetFree.of_bodySF (plainFor_of_name own_pn_9) hisR ?_
  intro p e s m args below meth c s₁ Bd hml0 hP hK0
  obtain ⟨rfl, hZ, hh⟩ := hP
  have hx := Bd.exec
  have hby := Bd.bytes
  have hml : c.maxLocals = 1 := hml0
  have hown : s.vm.findClass "com/example/interleave/interleave/engine/TransactionCommittedByPinLaw" = some m.cls := findClass_of_methodNamed Bd.named
  have hnm := (name_of_methodNamed Bd.named Bd.method).1
  have X0 : Stand p l e ({ frames := 0, cells := 0, slots := 0, locals := 0 } : Room) s m #[(.int q1)] below meth c s₁ [] 0 0 := Stand.of_body Bd
  have e0 : s₁.heap = h0 := by rw [← hh, Bd.state]; rfl
  have N0 := Fr.nil n0
  refine own_open fun K hK => ?_
  refine own_go (B := s₁.setTop (mkF m 0 #[.val (.int q1)] [])) (fun t k => castTop (own_ef_level m q1) k) ?_
  refine own_go (B := s₁.setTop (mkF m 1 #[.val (.int q1)] [(.int q1)])) (fun t k => XS.iloadN X0.here hx rfl (hb hby own_d4_0) rfl k) ?_
  by_cases hc1_283 : q1 = (0 : Int32)
  · refine own_go (B := s₁.setTop (mkF m 4 #[.val (.int q1)] [])) (fun t k => XS.ifNo X0.here hx rfl (hb hby own_d4_1) rfl ((if0 _ _).trans (teq hc1_283).2) k) ?_
    obtain ⟨T284, X284, e284, st284⟩ := getS2 X0 hx hZ hown (host := "") (Or.inl (hw _ (List.mem_of_getElem? (i := 120) rfl))) Via.refl e0 (S_READ_UNCOMMITTED.ext O0.2) (g := (mkF m 4 #[.val (.int q1)] [])) rfl (hb hby own_d4_4)
    refine own_go (B := T284.setTop (mkF m 7 #[.val (.int q1)] [(.ref w_READ_UNCOMMITTED)])) (fun t k => st284 _ k) ?_
    obtain ⟨fs, hr, hrun, hended, hW, hsame⟩ := X284.leave (v := some (.ref w_READ_UNCOMMITTED)) (fun h => by rw [Bd.returns] at h; cases h)
    refine ⟨_, _, own_retA X284 hx Bd.returns rfl rfl (hb hby own_d4_7) hr, hK _ _ ⟨hrun, hended, _, _, rfl, ?_, ⟨_, rfl⟩, hW, hsame.mono (by decide) (by decide)⟩⟩
    show own_Q_level Z q1 w_READ_UNCOMMITTED w_READ_COMMITTED w_REPEATABLE_READ w_SERIALIZABLE h0 n0 _ T284.heap _
    rw [e284]
    exact ⟨w_READ_UNCOMMITTED, rfl, N0, rfl⟩
  · refine own_go (B := s₁.setTop (mkF m 8 #[.val (.int q1)] [])) (fun t k => XS.ifYes X0.here hx rfl (pc0 := 1) (pc' := 8) rfl (hb hby own_d4_1) rfl ((if0 _ _).trans (feq hc1_283).2) (by decide) (by decide) k) ?_
    refine own_go (B := s₁.setTop (mkF m 9 #[.val (.int q1)] [(.int q1)])) (fun t k => XS.iloadN X0.here hx rfl (hb hby own_d4_8) rfl k) ?_
    refine own_go (B := s₁.setTop (mkF m 10 #[.val (.int q1)] [(.int (1 : Int32)), (.int q1)])) (fun t k => XS.iconst X0.here hx rfl (hb hby own_d4_9) k) ?_
    by_cases hc10_286 : q1 = (1 : Int32)
    · refine own_go (B := s₁.setTop (mkF m 13 #[.val (.int q1)] [])) (fun t k => XS.icmpNo X0.here hx rfl (hb hby own_d4_10) rfl (teq hc10_286).2 k) ?_
      obtain ⟨T287, X287, e287, st287⟩ := getS2 X0 hx hZ hown (host := "") (Or.inl (hw _ (List.mem_of_getElem? (i := 172) rfl))) Via.refl e0 (S_READ_COMMITTED.ext O0.2) (g := (mkF m 13 #[.val (.int q1)] [])) rfl (hb hby own_d4_13)
      refine own_go (B := T287.setTop (mkF m 16 #[.val (.int q1)] [(.ref w_READ_COMMITTED)])) (fun t k => st287 _ k) ?_
      obtain ⟨fs, hr, hrun, hended, hW, hsame⟩ := X287.leave (v := some (.ref w_READ_COMMITTED)) (fun h => by rw [Bd.returns] at h; cases h)
      refine ⟨_, _, own_retA X287 hx Bd.returns rfl rfl (hb hby own_d4_16) hr, hK _ _ ⟨hrun, hended, _, _, rfl, ?_, ⟨_, rfl⟩, hW, hsame.mono (by decide) (by decide)⟩⟩
      show own_Q_level Z q1 w_READ_UNCOMMITTED w_READ_COMMITTED w_REPEATABLE_READ w_SERIALIZABLE h0 n0 _ T287.heap _
      rw [e287]
      exact ⟨w_READ_COMMITTED, rfl, N0, rfl⟩
    · refine own_go (B := s₁.setTop (mkF m 17 #[.val (.int q1)] [])) (fun t k => XS.icmpYes X0.here hx rfl (pc0 := 10) (pc' := 17) rfl (hb hby own_d4_10) rfl (feq hc10_286).2 (by decide) (by decide) k) ?_
      refine own_go (B := s₁.setTop (mkF m 18 #[.val (.int q1)] [(.int q1)])) (fun t k => XS.iloadN X0.here hx rfl (hb hby own_d4_17) rfl k) ?_
      refine own_go (B := s₁.setTop (mkF m 19 #[.val (.int q1)] [(.int (2 : Int32)), (.int q1)])) (fun t k => XS.iconst X0.here hx rfl (hb hby own_d4_18) k) ?_
      by_cases hc19_289 : q1 = (2 : Int32)
      · refine own_go (B := s₁.setTop (mkF m 22 #[.val (.int q1)] [])) (fun t k => XS.icmpNo X0.here hx rfl (hb hby own_d4_19) rfl (teq hc19_289).2 k) ?_
        obtain ⟨T290, X290, e290, st290⟩ := getS2 X0 hx hZ hown (host := "") (Or.inl (hw _ (List.mem_of_getElem? (i := 4) rfl))) Via.refl e0 (S_REPEATABLE_READ.ext O0.2) (g := (mkF m 22 #[.val (.int q1)] [])) rfl (hb hby own_d4_22)
        refine own_go (B := T290.setTop (mkF m 25 #[.val (.int q1)] [(.ref w_REPEATABLE_READ)])) (fun t k => st290 _ k) ?_
        obtain ⟨fs, hr, hrun, hended, hW, hsame⟩ := X290.leave (v := some (.ref w_REPEATABLE_READ)) (fun h => by rw [Bd.returns] at h; cases h)
        refine ⟨_, _, own_retA X290 hx Bd.returns rfl rfl (hb hby own_d4_25) hr, hK _ _ ⟨hrun, hended, _, _, rfl, ?_, ⟨_, rfl⟩, hW, hsame.mono (by decide) (by decide)⟩⟩
        show own_Q_level Z q1 w_READ_UNCOMMITTED w_READ_COMMITTED w_REPEATABLE_READ w_SERIALIZABLE h0 n0 _ T290.heap _
        rw [e290]
        exact ⟨w_REPEATABLE_READ, rfl, N0, rfl⟩
      · refine own_go (B := s₁.setTop (mkF m 26 #[.val (.int q1)] [])) (fun t k => XS.icmpYes X0.here hx rfl (pc0 := 19) (pc' := 26) rfl (hb hby own_d4_19) rfl (feq hc19_289).2 (by decide) (by decide) k) ?_
        obtain ⟨T292, X292, e292, st292⟩ := getS2 X0 hx hZ hown (host := "") (Or.inl (hw _ (List.mem_of_getElem? (i := 174) rfl))) Via.refl e0 (S_SERIALIZABLE.ext O0.2) (g := (mkF m 26 #[.val (.int q1)] [])) rfl (hb hby own_d4_26)
        refine own_go (B := T292.setTop (mkF m 29 #[.val (.int q1)] [(.ref w_SERIALIZABLE)])) (fun t k => st292 _ k) ?_
        obtain ⟨fs, hr, hrun, hended, hW, hsame⟩ := X292.leave (v := some (.ref w_SERIALIZABLE)) (fun h => by rw [Bd.returns] at h; cases h)
        refine ⟨_, _, own_retA X292 hx Bd.returns rfl rfl (hb hby own_d4_29) hr, hK _ _ ⟨hrun, hended, _, _, rfl, ?_, ⟨_, rfl⟩, hW, hsame.mono (by decide) (by decide)⟩⟩
        show own_Q_level Z q1 w_READ_UNCOMMITTED w_READ_COMMITTED w_REPEATABLE_READ w_SERIALIZABLE h0 n0 _ T292.heap _
        rw [e292]
        exact ⟨w_SERIALIZABLE, rfl, N0, rfl⟩
theorem own_c1 (x : Int64) (h : ¬ (x &&& (9223372036854775807 : Int64)) = 0) : (0 : Int64) < (x &&& (9223372036854775807 : Int64)) := by
  have h1 := c_maskL x 9223372036854775807 63 (by decide) (by decide)
  rw [← Int64.toInt_inj] at h
  rw [Int64.lt_iff_toInt_lt]
  have h0 : (0 : Int64).toInt = 0 := rfl
  have e1 : (x &&& (9223372036854775807 : Int64)).toInt = x.toInt % 9223372036854775808 := h1
  generalize (x &&& (9223372036854775807 : Int64)).toInt = y at *
  omega
theorem own_irr (c : Int64) : ¬ c < c := by rw [Int64.lt_iff_toInt_lt]; omega
theorem own_cs (c : Int64) (h : (0 : Int64) < c) : ¬ c = 0 ∧ (c - 1) < c ∧ ¬ (9223372036854775807 : Int64) < c := by
  rw [Int64.lt_iff_toInt_lt] at h
  have h0 : (0 : Int64).toInt = 0 := rfl
  have h1 : (1 : Int64).toInt = 1 := rfl
  have hm : (9223372036854775807 : Int64).toInt = 9223372036854775807 := rfl
  have hu := c.toInt_lt
  refine ⟨fun e => by rw [e] at h; omega, ?_, ?_⟩
  · rw [Int64.lt_iff_toInt_lt, Int64.toInt_sub, h1]
    have : (c.toInt - 1).bmod (2 ^ 64) = c.toInt - 1 := by rw [Int.bmod_eq_of_le] <;> omega
    rw [this]; omega
  · rw [Int64.lt_iff_toInt_lt, hm]; omega
theorem own_pd_3 : parseMethodDescriptor "(I)Lcom/example/interleave/interleave/sql/IsolationLevel;" = some ⟨[.int], some (.object "com/example/interleave/interleave/sql/IsolationLevel")⟩ := by decide +kernel
theorem own_pd_4 : parseMethodDescriptor "(JLcom/example/interleave/interleave/sql/IsolationLevel;Z)V" = some ⟨[.long, (.object "com/example/interleave/interleave/sql/IsolationLevel"), .boolean], none⟩ := by decide +kernel
theorem own_pd_5 : parseMethodDescriptor "(J)Z" = some ⟨[.long], some .boolean⟩ := by decide +kernel
theorem own_pd_6 : parseMethodDescriptor "(J)V" = some ⟨[.long], none⟩ := by decide +kernel
theorem own_ef_law (m : MethodId) (x0 : Int64) (x1 : Int32) (x2 : Int64) (x3 : Int64)  : entryFrame m #[(.long x0), (.int x1), (.long x2), (.long x3)] maxLocals = mkF m 0 #[.val (.long x0), .second, .val (.int x1), .val (.long x2), .second, .val (.long x3), .second, .unset, .unset, .unset, .unset, .unset, .unset, .unset, .unset, .unset, .unset, .unset] [] := by first | (simp [entryFrame, mkF, argsToLocals, Value.category, maxLocals]; done) | rfl
def own_Q_law (Z : State) (p1 : Int64) (p2 : Int32) (p3 : Int64) (p4 : Int64) (w_REPEATABLE_READ w_READ_UNCOMMITTED w_READ_COMMITTED w_SERIALIZABLE : Addr) (w_DEF : Addr) (h0 : Heap) (n0 : Nat) (v : Option Value) (h : Heap) (L : List Loc) : Prop := v = some (.int 1) ∧ Fr n0 L
set_option maxRecDepth 65536 in
set_option maxHeartbeats 40000000 in
theorem own_rm_law (l : Launch) (Z : State) (a0 : Array Value) (hw : ∀ d ∈ tables_1, d.before a0 Z = true) (ws : List Jvm.Cond) (p1 : Int64) (p2 : Int32) (p3 : Int64) (p4 : Int64) (w_REPEATABLE_READ w_READ_UNCOMMITTED w_READ_COMMITTED w_SERIALIZABLE : Addr) (w_DEF : Addr) (h0 : Heap) (n0 : Nat) (O0 : Old Z n0 h0) (S_REPEATABLE_READ : Sta Z Z.heap "com/example/interleave/interleave/sql/IsolationLevel" "REPEATABLE_READ" "Lcom/example/interleave/interleave/sql/IsolationLevel;" (.ref w_REPEATABLE_READ)) (E_REPEATABLE_READ : Exa Z Z.heap w_REPEATABLE_READ "com/example/interleave/interleave/sql/IsolationLevel") (S_READ_UNCOMMITTED : Sta Z Z.heap "com/example/interleave/interleave/sql/IsolationLevel" "READ_UNCOMMITTED" "Lcom/example/interleave/interleave/sql/IsolationLevel;" (.ref w_READ_UNCOMMITTED)) (E_READ_UNCOMMITTED : Exa Z Z.heap w_READ_UNCOMMITTED "com/example/interleave/interleave/sql/IsolationLevel") (S_READ_COMMITTED : Sta Z Z.heap "com/example/interleave/interleave/sql/IsolationLevel" "READ_COMMITTED" "Lcom/example/interleave/interleave/sql/IsolationLevel;" (.ref w_READ_COMMITTED)) (E_READ_COMMITTED : Exa Z Z.heap w_READ_COMMITTED "com/example/interleave/interleave/sql/IsolationLevel") (S_SERIALIZABLE : Sta Z Z.heap "com/example/interleave/interleave/sql/IsolationLevel" "SERIALIZABLE" "Lcom/example/interleave/interleave/sql/IsolationLevel;" (.ref w_SERIALIZABLE)) (E_SERIALIZABLE : Exa Z Z.heap w_SERIALIZABLE "com/example/interleave/interleave/sql/IsolationLevel") (S_DEF : Sta Z Z.heap "java/util/ArrayList" "DEFAULTCAPACITY_EMPTY_ELEMENTDATA" "[Ljava/lang/Object;" (.ref w_DEF)) :
    MetFree l x (head1 (Jvm.Cond.code x code maxLocals ret :: ws) room_1) (fun ar9 U => ar9 = #[(.long p1), (.int p2), (.long p3), (.long p4)] ∧ Z.Warmed39 U.vm ∧ U.heap = h0) (fun _ _ _ _ _ => True) (fun _ U o U' => ∃ v L, o = .returned v ∧ own_Q_law Z p1 p2 p3 p4 w_REPEATABLE_READ w_READ_UNCOMMITTED w_READ_COMMITTED w_SERIALIZABLE w_DEF h0 n0 v U'.heap L ∧ FrameEnd U o U' L room_1.cells room_1.slots) := by
  refine MetFree.of_bodySF (plainFor_of_name own_pn_9) hisR ?_
  intro p e s m args below meth c s₁ Bd hml0 hP hK0
  obtain ⟨rfl, hZ, hh⟩ := hP
  have hx := Bd.exec
  have hby := Bd.bytes
  have hml : c.maxLocals = 18 := hml0
  have hown : s.vm.findClass "com/example/interleave/interleave/engine/TransactionCommittedByPinLaw" = some m.cls := findClass_of_methodNamed Bd.named
  have hnm := (name_of_methodNamed Bd.named Bd.method).1
  have X0 : Stand p l e room_1 s m #[(.long p1), (.int p2), (.long p3), (.long p4)] below meth c s₁ [] 0 0 := Stand.of_body Bd
  have e0 : s₁.heap = h0 := by rw [← hh, Bd.state]; rfl
  have N0 := Fr.nil n0
  refine own_open fun K hK => ?_
  refine own_go (B := s₁.setTop (mkF m 0 #[.val (.long p1), .second, .val (.int p2), .val (.long p3), .second, .val (.long p4), .second, .unset, .unset, .unset, .unset, .unset, .unset, .unset, .unset, .unset, .unset, .unset] [])) (fun t k => castTop (own_ef_law m p1 p2 p3 p4) k) ?_
  refine own_go (B := s₁.setTop (mkF m 1 #[.val (.long p1), .second, .val (.int p2), .val (.long p3), .second, .val (.long p4), .second, .unset, .unset, .unset, .unset, .unset, .unset, .unset, .unset, .unset, .unset, .unset] [(.int p2)])) (fun t k => XS.iloadN X0.here hx rfl (hb hby at_0) rfl k) ?_
  refine own_go (B := s₁.setTop (mkF m 2 #[.val (.long p1), .second, .val (.int p2), .val (.long p3), .second, .val (.long p4), .second, .unset, .unset, .unset, .unset, .unset, .unset, .unset, .unset, .unset, .unset, .unset] [(.int (3 : Int32)), (.int p2)])) (fun t k => XS.iconst X0.here hx rfl (hb hby at_1) k) ?_
  refine own_go (B := s₁.setTop (mkF m 3 #[.val (.long p1), .second, .val (.int p2), .val (.long p3), .second, .val (.long p4), .second, .unset, .unset, .unset, .unset, .unset, .unset, .unset, .unset, .unset, .unset, .unset] [(.int (p2 &&& (3 : Int32)))])) (fun t k => XS.iand X0.here hx rfl (hb hby at_2) rfl k) ?_
  obtain ⟨_, _, ⟨T294, L294, k294, n294⟩, -, X294, ⟨Lc294, hQ294, l294, y294, z294⟩, st294⟩ := Jvm.LawKit.callS X0 hx (y := (⟨"com/example/interleave/interleave/engine/TransactionCommittedByPinLaw", "level", "(I)Lcom/example/interleave/interleave/sql/IsolationLevel;"⟩ : MethodName)) hown (mvT hZ (hw _ (List.mem_of_getElem? (i := 0) rfl))) (mvT hZ (hw _ (List.mem_of_getElem? (i := 1) rfl))) (mvT hZ (hw _ (List.mem_of_getElem? (i := 2) rfl))) (mvT hZ (hw _ (List.mem_of_getElem? (i := 3) rfl))) (by decide) (backOf (W := 0) (own_rm_level l Z a0 hw [] (p2 &&& (3 : Int32)) w_READ_UNCOMMITTED w_READ_COMMITTED w_REPEATABLE_READ w_SERIALIZABLE h0 n0 O0 S_READ_UNCOMMITTED S_READ_COMMITTED S_REPEATABLE_READ S_SERIALIZABLE) hZ (hw _ (List.mem_of_getElem? (i := 3) rfl)) (hw _ (List.mem_of_getElem? (i := 2) rfl)) (by decide) (by decide)) (g := (mkF m 3 #[.val (.long p1), .second, .val (.int p2), .val (.long p3), .second, .val (.long p4), .second, .unset, .unset, .unset, .unset, .unset, .unset, .unset, .unset, .unset, .unset, .unset] [(.int (p2 &&& (3 : Int32)))])) rfl (by rw [hml]; rfl) (argsL := [(.int (p2 &&& (3 : Int32)))]) (rest := []) (lenOf own_pd_3 rfl) rfl (by show 2 * 0 + _ ≤ _; exact Nat.le_of_eq rfl) (hb hby at_3) (fun _ _ => ⟨rfl, e0, (by decide : 0 + 0 ≤ _), (by decide : 0 + 0 ≤ _)⟩)
  dsimp only [Pt.U, Pt.locs, Pt.cells, Pt.slots] at X294 l294 y294 z294 st294 hQ294
  subst l294 y294 z294
  obtain ⟨r_294, rfl, N294q, eh294⟩ := hQ294
  have N294 := Fr.app N0 N294q
  refine own_go (B := T294.setTop (mkF m 6 #[.val (.long p1), .second, .val (.int p2), .val (.long p3), .second, .val (.long p4), .second, .unset, .unset, .unset, .unset, .unset, .unset, .unset, .unset, .unset, .unset, .unset] [(.ref r_294)])) (fun t k => st294 _ k) ?_
  refine own_go (B := T294.setTop (mkF m 8 #[.val (.long p1), .second, .val (.int p2), .val (.long p3), .second, .val (.long p4), .second, .val (.ref r_294), .unset, .unset, .unset, .unset, .unset, .unset, .unset, .unset, .unset, .unset] [])) (fun t k => XS.astore X294.here hx rfl (hb hby at_6) rfl rfl (l' := #[.val (.long p1), .second, .val (.int p2), .val (.long p3), .second, .val (.long p4), .second, .val (.ref r_294), .unset, .unset, .unset, .unset, .unset, .unset, .unset, .unset, .unset, .unset]) rfl k) ?_
  refine own_go (B := T294.setTop (mkF m 9 #[.val (.long p1), .second, .val (.int p2), .val (.long p3), .second, .val (.long p4), .second, .val (.ref r_294), .unset, .unset, .unset, .unset, .unset, .unset, .unset, .unset, .unset, .unset] [(.int p2)])) (fun t k => XS.iloadN X294.here hx rfl (hb hby at_8) rfl k) ?_
  refine own_go (B := T294.setTop (mkF m 10 #[.val (.long p1), .second, .val (.int p2), .val (.long p3), .second, .val (.long p4), .second, .val (.ref r_294), .unset, .unset, .unset, .unset, .unset, .unset, .unset, .unset, .unset, .unset] [(.int (4 : Int32)), (.int p2)])) (fun t k => XS.iconst X294.here hx rfl (hb hby at_9) k) ?_
  refine own_go (B := T294.setTop (mkF m 11 #[.val (.long p1), .second, .val (.int p2), .val (.long p3), .second, .val (.long p4), .second, .val (.ref r_294), .unset, .unset, .unset, .unset, .unset, .unset, .unset, .unset, .unset, .unset] [(.int (p2 &&& (4 : Int32)))])) (fun t k => XS.iand X294.here hx rfl (hb hby at_10) rfl k) ?_
  by_cases hc11_295 : (p2 &&& (4 : Int32)) = (0 : Int32)
  · refine own_go (B := T294.setTop (mkF m 18 #[.val (.long p1), .second, .val (.int p2), .val (.long p3), .second, .val (.long p4), .second, .val (.ref r_294), .unset, .unset, .unset, .unset, .unset, .unset, .unset, .unset, .unset, .unset] [])) (fun t k => XS.ifYes X294.here hx rfl (pc0 := 11) (pc' := 18) rfl (hb hby at_11) rfl ((if0 _ _).trans (teq hc11_295).1) (by decide) (by decide) k) ?_
    refine own_go (B := T294.setTop (mkF m 19 #[.val (.long p1), .second, .val (.int p2), .val (.long p3), .second, .val (.long p4), .second, .val (.ref r_294), .unset, .unset, .unset, .unset, .unset, .unset, .unset, .unset, .unset, .unset] [(.int (0 : Int32))])) (fun t k => XS.iconst X294.here hx rfl (hb hby at_18) k) ?_
    refine own_go (B := T294.setTop (mkF m 21 #[.val (.long p1), .second, .val (.int p2), .val (.long p3), .second, .val (.long p4), .second, .val (.ref r_294), .val (.int (0 : Int32)), .unset, .unset, .unset, .unset, .unset, .unset, .unset, .unset, .unset] [])) (fun t k => XS.istore X294.here hx rfl (hb hby at_19) rfl (l' := #[.val (.long p1), .second, .val (.int p2), .val (.long p3), .second, .val (.long p4), .second, .val (.ref r_294), .val (.int (0 : Int32)), .unset, .unset, .unset, .unset, .unset, .unset, .unset, .unset, .unset]) rfl k) ?_
    refine own_go (B := T294.setTop (mkF m 22 #[.val (.long p1), .second, .val (.int p2), .val (.long p3), .second, .val (.long p4), .second, .val (.ref r_294), .val (.int (0 : Int32)), .unset, .unset, .unset, .unset, .unset, .unset, .unset, .unset, .unset] [(.int p2)])) (fun t k => XS.iloadN X294.here hx rfl (hb hby at_21) rfl k) ?_
    refine own_go (B := T294.setTop (mkF m 24 #[.val (.long p1), .second, .val (.int p2), .val (.long p3), .second, .val (.long p4), .second, .val (.ref r_294), .val (.int (0 : Int32)), .unset, .unset, .unset, .unset, .unset, .unset, .unset, .unset, .unset] [(.int (8 : Int32)), (.int p2)])) (fun t k => XS.bipush X294.here hx rfl (hb hby at_22) k) ?_
    refine own_go (B := T294.setTop (mkF m 25 #[.val (.long p1), .second, .val (.int p2), .val (.long p3), .second, .val (.long p4), .second, .val (.ref r_294), .val (.int (0 : Int32)), .unset, .unset, .unset, .unset, .unset, .unset, .unset, .unset, .unset] [(.int (p2 &&& (8 : Int32)))])) (fun t k => XS.iand X294.here hx rfl (hb hby at_24) rfl k) ?_
    by_cases hc25_296 : (p2 &&& (8 : Int32)) = (0 : Int32)
    · refine own_go (B := T294.setTop (mkF m 32 #[.val (.long p1), .second, .val (.int p2), .val (.long p3), .second, .val (.long p4), .second, .val (.ref r_294), .val (.int (0 : Int32)), .unset, .unset, .unset, .unset, .unset, .unset, .unset, .unset, .unset] [])) (fun t k => XS.ifYes X294.here hx rfl (pc0 := 25) (pc' := 32) rfl (hb hby at_25) rfl ((if0 _ _).trans (teq hc25_296).1) (by decide) (by decide) k) ?_
      refine own_go (B := T294.setTop (mkF m 33 #[.val (.long p1), .second, .val (.int p2), .val (.long p3), .second, .val (.long p4), .second, .val (.ref r_294), .val (.int (0 : Int32)), .unset, .unset, .unset, .unset, .unset, .unset, .unset, .unset, .unset] [(.int (0 : Int32))])) (fun t k => XS.iconst X294.here hx rfl (hb hby at_32) k) ?_
      refine own_go (B := T294.setTop (mkF m 35 #[.val (.long p1), .second, .val (.int p2), .val (.long p3), .second, .val (.long p4), .second, .val (.ref r_294), .val (.int (0 : Int32)), .val (.int (0 : Int32)), .unset, .unset, .unset, .unset, .unset, .unset, .unset, .unset] [])) (fun t k => XS.istore X294.here hx rfl (hb hby at_33) rfl (l' := #[.val (.long p1), .second, .val (.int p2), .val (.long p3), .second, .val (.long p4), .second, .val (.ref r_294), .val (.int (0 : Int32)), .val (.int (0 : Int32)), .unset, .unset, .unset, .unset, .unset, .unset, .unset, .unset]) rfl k) ?_
      refine own_go (B := T294.setTop (mkF m 36 #[.val (.long p1), .second, .val (.int p2), .val (.long p3), .second, .val (.long p4), .second, .val (.ref r_294), .val (.int (0 : Int32)), .val (.int (0 : Int32)), .unset, .unset, .unset, .unset, .unset, .unset, .unset, .unset] [(.long p3)])) (fun t k => XS.lloadN X294.here hx rfl (hb hby at_35) rfl k) ?_
      refine own_go (B := T294.setTop (mkF m 39 #[.val (.long p1), .second, .val (.int p2), .val (.long p3), .second, .val (.long p4), .second, .val (.ref r_294), .val (.int (0 : Int32)), .val (.int (0 : Int32)), .unset, .unset, .unset, .unset, .unset, .unset, .unset, .unset] [(.long (9223372036854775807 : Int64)), (.long p3)])) (fun t k => X294.ldc2Long hx hown (mvT hZ (hw _ (List.mem_of_getElem? (i := 7) rfl))) (g := (mkF m 36 #[.val (.long p1), .second, .val (.int p2), .val (.long p3), .second, .val (.long p4), .second, .val (.ref r_294), .val (.int (0 : Int32)), .val (.int (0 : Int32)), .unset, .unset, .unset, .unset, .unset, .unset, .unset, .unset] [(.long p3)])) rfl (hb hby at_36) _ k) ?_
      refine own_go (B := T294.setTop (mkF m 40 #[.val (.long p1), .second, .val (.int p2), .val (.long p3), .second, .val (.long p4), .second, .val (.ref r_294), .val (.int (0 : Int32)), .val (.int (0 : Int32)), .unset, .unset, .unset, .unset, .unset, .unset, .unset, .unset] [(.long (p3 &&& (9223372036854775807 : Int64)))])) (fun t k => XS.land X294.here hx rfl (hb hby at_39) rfl k) ?_
      refine own_go (B := T294.setTop (mkF m 42 #[.val (.long p1), .second, .val (.int p2), .val (.long p3), .second, .val (.long p4), .second, .val (.ref r_294), .val (.int (0 : Int32)), .val (.int (0 : Int32)), .val (.long (p3 &&& (9223372036854775807 : Int64))), .second, .unset, .unset, .unset, .unset, .unset, .unset] [])) (fun t k => XS.lstore X294.here hx rfl (hb hby at_40) rfl (l' := #[.val (.long p1), .second, .val (.int p2), .val (.long p3), .second, .val (.long p4), .second, .val (.ref r_294), .val (.int (0 : Int32)), .val (.int (0 : Int32)), .val (.long (p3 &&& (9223372036854775807 : Int64))), .second, .unset, .unset, .unset, .unset, .unset, .unset]) rfl k) ?_
      obtain ⟨c0, hc0⟩ : ∃ z, z = (p3 &&& (9223372036854775807 : Int64)) := ⟨_, rfl⟩
      rw [← hc0]
      refine own_go (B := T294.setTop (mkF m 44 #[.val (.long p1), .second, .val (.int p2), .val (.long p3), .second, .val (.long p4), .second, .val (.ref r_294), .val (.int (0 : Int32)), .val (.int (0 : Int32)), .val (.long c0), .second, .unset, .unset, .unset, .unset, .unset, .unset] [(.long c0)])) (fun t k => XS.lload X294.here hx rfl (hb hby at_42) rfl k) ?_
      refine own_go (B := T294.setTop (mkF m 45 #[.val (.long p1), .second, .val (.int p2), .val (.long p3), .second, .val (.long p4), .second, .val (.ref r_294), .val (.int (0 : Int32)), .val (.int (0 : Int32)), .val (.long c0), .second, .unset, .unset, .unset, .unset, .unset, .unset] [(.long (0 : Int64)), (.long c0)])) (fun t k => XS.lconst X294.here hx rfl (hb hby at_44) k) ?_
      refine own_go (B := T294.setTop (mkF m 46 #[.val (.long p1), .second, .val (.int p2), .val (.long p3), .second, .val (.long p4), .second, .val (.ref r_294), .val (.int (0 : Int32)), .val (.int (0 : Int32)), .val (.long c0), .second, .unset, .unset, .unset, .unset, .unset, .unset] [(.int (lcmpW c0 (0 : Int64)))])) (fun t k => XS.lcmp X294.here hx rfl (hb hby at_45) rfl k) ?_
      have J297 : ∀ (T297 : State) (lc297 : List Loc) (X297 : Stand p l e room_1 s m #[(.long p1), (.int p2), (.long p3), (.long p4)] below meth c T297 lc297 0 0) (N297 : Fr n0 lc297) (e297 : T297.heap = h0) (cc : Int64), (0 : Int64) < cc → own_Ends p.tables e below (T297.setTop (mkF m 52 #[.val (.long p1), .second, .val (.int p2), .val (.long p3), .second, .val (.long p4), .second, .val (.ref r_294), .val (.int (0 : Int32)), .val (.int (0 : Int32)), .val (.long cc), .second, .unset, .unset, .unset, .unset, .unset, .unset] [])) K := by
        intro T297 lc297 X297 N297 e297 cc hrel297
        obtain ⟨hz1, hz2, hz3⟩ := own_cs cc hrel297
        obtain ⟨T298, h298, X298, e298, E298, A298, D298, -, st298⟩ := newO X297 hx hZ hown (hw _ (List.mem_of_getElem? (i := 8) rfl)) (hw _ (List.mem_of_getElem? (i := 9) rfl)) (hw _ (List.mem_of_getElem? (i := 10) rfl)) e297 (g := (mkF m 52 #[.val (.long p1), .second, .val (.int p2), .val (.long p3), .second, .val (.long p4), .second, .val (.ref r_294), .val (.int (0 : Int32)), .val (.int (0 : Int32)), .val (.long cc), .second, .unset, .unset, .unset, .unset, .unset, .unset] [])) rfl (hb hby at_52) (by decide) (by decide)
        obtain ⟨b298, g298⟩ : ∃ z, z = h0.size := ⟨_, rfl⟩
        rw [← g298] at A298 D298 st298
        have g_b298 : n0 ≤ b298 := Nat.le_trans (own_n0 O0) (Nat.le_of_eq g298.symm)
        have O298 := O0.ext E298
        have F298_75 : Fld Z h298 b298 "com/example/interleave/interleave/engine/Transaction" "undo" "Lcom/example/interleave/interleave/engine/UndoLog;" .null := D298 (Or.inr (hw _ (List.mem_of_getElem? (i := 75) rfl))) (ty := (.object "com/example/interleave/interleave/engine/UndoLog")) (by decide)
        have F298_103 : Fld Z h298 b298 "com/example/interleave/interleave/engine/Transaction" "written" "Ljava/util/Map;" .null := D298 (Or.inr (hw _ (List.mem_of_getElem? (i := 103) rfl))) (ty := (.object "java/util/Map")) (by decide)
        have F298_106 : Fld Z h298 b298 "com/example/interleave/interleave/engine/Transaction" "snapshot" "J" (.long (0 : Int64)) := D298 (Or.inl (hw _ (List.mem_of_getElem? (i := 106) rfl))) (ty := .long) (by decide)
        have F298_108 : Fld Z h298 b298 "com/example/interleave/interleave/engine/Transaction" "commitNumber" "J" (.long (0 : Int64)) := D298 (Or.inl (hw _ (List.mem_of_getElem? (i := 108) rfl))) (ty := .long) (by decide)
        have F298_110 : Fld Z h298 b298 "com/example/interleave/interleave/engine/Transaction" "beginNumber" "J" (.long (0 : Int64)) := D298 (Or.inr (hw _ (List.mem_of_getElem? (i := 110) rfl))) (ty := .long) (by decide)
        have F298_112 : Fld Z h298 b298 "com/example/interleave/interleave/engine/Transaction" "level" "Lcom/example/interleave/interleave/sql/IsolationLevel;" .null := D298 (Or.inr (hw _ (List.mem_of_getElem? (i := 112) rfl))) (ty := (.object "com/example/interleave/interleave/sql/IsolationLevel")) (by decide)
        have F298_114 : Fld Z h298 b298 "com/example/interleave/interleave/engine/Transaction" "autocommit" "Z" (.int (0 : Int32)) := D298 (Or.inr (hw _ (List.mem_of_getElem? (i := 114) rfl))) (ty := .boolean) (by decide)
        refine own_go (B := T298.setTop (mkF m 55 #[.val (.long p1), .second, .val (.int p2), .val (.long p3), .second, .val (.long p4), .second, .val (.ref r_294), .val (.int (0 : Int32)), .val (.int (0 : Int32)), .val (.long cc), .second, .unset, .unset, .unset, .unset, .unset, .unset] [(.ref b298)])) (fun t k => st298 _ k) ?_
        refine own_go (B := T298.setTop (mkF m 56 #[.val (.long p1), .second, .val (.int p2), .val (.long p3), .second, .val (.long p4), .second, .val (.ref r_294), .val (.int (0 : Int32)), .val (.int (0 : Int32)), .val (.long cc), .second, .unset, .unset, .unset, .unset, .unset, .unset] [(.ref b298), (.ref b298)])) (fun t k => XS.dup X298.here hx rfl (hb hby at_55) rfl rfl k) ?_
        refine own_go (B := T298.setTop (mkF m 57 #[.val (.long p1), .second, .val (.int p2), .val (.long p3), .second, .val (.long p4), .second, .val (.ref r_294), .val (.int (0 : Int32)), .val (.int (0 : Int32)), .val (.long cc), .second, .unset, .unset, .unset, .unset, .unset, .unset] [(.long p1), (.ref b298), (.ref b298)])) (fun t k => XS.lloadN X298.here hx rfl (hb hby at_56) rfl k) ?_
        refine own_go (B := T298.setTop (mkF m 59 #[.val (.long p1), .second, .val (.int p2), .val (.long p3), .second, .val (.long p4), .second, .val (.ref r_294), .val (.int (0 : Int32)), .val (.int (0 : Int32)), .val (.long cc), .second, .unset, .unset, .unset, .unset, .unset, .unset] [(.ref r_294), (.long p1), (.ref b298), (.ref b298)])) (fun t k => XS.aload X298.here hx rfl (hb hby at_57) rfl rfl k) ?_
        refine own_go (B := T298.setTop (mkF m 61 #[.val (.long p1), .second, .val (.int p2), .val (.long p3), .second, .val (.long p4), .second, .val (.ref r_294), .val (.int (0 : Int32)), .val (.int (0 : Int32)), .val (.long cc), .second, .unset, .unset, .unset, .unset, .unset, .unset] [(.int (0 : Int32)), (.ref r_294), (.long p1), (.ref b298), (.ref b298)])) (fun t k => XS.iload X298.here hx rfl (hb hby at_59) rfl k) ?_
        have lt_b298_299 := A298.lt
        obtain ⟨_, _, ⟨T300, L300, k300, n300⟩, -, X300, ⟨Lc300, hQ300, l300, y300, z300⟩, st300⟩ := X298.specialBack hx (y := (⟨"com/example/interleave/interleave/engine/Transaction", "<init>", "(JLcom/example/interleave/interleave/sql/IsolationLevel;Z)V"⟩ : MethodName)) rfl hown (mvT hZ (hw _ (List.mem_of_getElem? (i := 11) rfl))) (mvT hZ (hw _ (List.mem_of_getElem? (i := 12) rfl))) (mvT hZ (hw _ (List.mem_of_getElem? (i := 13) rfl))) (by decide) (backOf (W := 1) (own_rm_tr0 l Z a0 hw [] b298 r_294 w_DEF p1 h298 n0 O298 S_DEF A298 g_b298 F298_75 F298_103 F298_106 F298_108 F298_110 F298_112 F298_114) hZ (hw _ (List.mem_of_getElem? (i := 13) rfl)) (hw _ (List.mem_of_getElem? (i := 10) rfl)) (by decide) (by decide)) (g := (mkF m 61 #[.val (.long p1), .second, .val (.int p2), .val (.long p3), .second, .val (.long p4), .second, .val (.ref r_294), .val (.int (0 : Int32)), .val (.int (0 : Int32)), .val (.long cc), .second, .unset, .unset, .unset, .unset, .unset, .unset] [(.int (0 : Int32)), (.ref r_294), (.long p1), (.ref b298), (.ref b298)])) rfl (by rw [hml]; rfl) (Steps.refl _) (a := b298) (argsL := [(.long p1), (.ref r_294), (.int (0 : Int32))]) (rest := [(.ref b298)]) (lenOf own_pd_4 rfl) rfl (by show 2 * 0 + _ ≤ _; exact Nat.le_of_eq rfl) (hb hby at_61) (fun _ _ => ⟨rfl, e298, (by decide : 1 + 5 ≤ _), (by decide : 8 + 21 ≤ _)⟩)
        dsimp only [Pt.U, Pt.locs, Pt.cells, Pt.slots] at X300 l300 y300 z300 st300 hQ300
        subst l300 y300 z300
        obtain ⟨un_300, wr_300, en_300, ch_300, rfl, N300q, Kc300, Q300_0, Q300_1, Q300_2, Q300_3, Q300_4, Q300_5, Q300_6, Q300_7, Q300_8, Q300_9, Q300_10, Q300_11, Q300_12, Q300_13, Q300_14, Q300_15, Q300_16, Q300_17, Q300_18, Q300_19, Q300_20, Q300_21⟩ := hQ300
        have O300 := O298.keep Kc300 (allS g_b298 all0)
        have N300 := Fr.app N297 N300q
        refine own_go (B := T300.setTop (mkF m 64 #[.val (.long p1), .second, .val (.int p2), .val (.long p3), .second, .val (.long p4), .second, .val (.ref r_294), .val (.int (0 : Int32)), .val (.int (0 : Int32)), .val (.long cc), .second, .unset, .unset, .unset, .unset, .unset, .unset] [(.ref b298)])) (fun t k => st300.trans k) ?_
        have g_un_300 : n0 ≤ un_300 := Nat.le_trans (own_n0 O298) Q300_0
        have g_wr_300 : n0 ≤ wr_300 := Nat.le_trans (own_n0 O298) Q300_1
        have g_en_300 : n0 ≤ en_300 := Nat.le_trans (own_n0 O298) Q300_2
        have g_ch_300 : n0 ≤ ch_300 := Nat.le_trans (own_n0 O298) Q300_3
        refine own_go (B := T300.setTop (mkF m 66 #[.val (.long p1), .second, .val (.int p2), .val (.long p3), .second, .val (.long p4), .second, .val (.ref r_294), .val (.int (0 : Int32)), .val (.int (0 : Int32)), .val (.long cc), .second, .val (.ref b298), .unset, .unset, .unset, .unset, .unset] [])) (fun t k => XS.astore X300.here hx rfl (hb hby at_64) rfl rfl (l' := #[.val (.long p1), .second, .val (.int p2), .val (.long p3), .second, .val (.long p4), .second, .val (.ref r_294), .val (.int (0 : Int32)), .val (.int (0 : Int32)), .val (.long cc), .second, .val (.ref b298), .unset, .unset, .unset, .unset, .unset]) rfl k) ?_
        refine own_go (B := T300.setTop (mkF m 68 #[.val (.long p1), .second, .val (.int p2), .val (.long p3), .second, .val (.long p4), .second, .val (.ref r_294), .val (.int (0 : Int32)), .val (.int (0 : Int32)), .val (.long cc), .second, .val (.ref b298), .unset, .unset, .unset, .unset, .unset] [(.int (0 : Int32))])) (fun t k => XS.iload X300.here hx rfl (hb hby at_66) rfl k) ?_
        refine own_go (B := T300.setTop (mkF m 78 #[.val (.long p1), .second, .val (.int p2), .val (.long p3), .second, .val (.long p4), .second, .val (.ref r_294), .val (.int (0 : Int32)), .val (.int (0 : Int32)), .val (.long cc), .second, .val (.ref b298), .unset, .unset, .unset, .unset, .unset] [])) (fun t k => XS.ifYes X300.here hx rfl (pc0 := 68) (pc' := 78) rfl (hb hby at_68) rfl ((if0 _ _).trans (teq (by decide : (0 : Int32) = (0 : Int32))).1) (by decide) (by decide) k) ?_
        refine own_go (B := T300.setTop (mkF m 79 #[.val (.long p1), .second, .val (.int p2), .val (.long p3), .second, .val (.long p4), .second, .val (.ref r_294), .val (.int (0 : Int32)), .val (.int (0 : Int32)), .val (.long cc), .second, .val (.ref b298), .unset, .unset, .unset, .unset, .unset] [(.int (0 : Int32))])) (fun t k => XS.iconst X300.here hx rfl (hb hby at_78) k) ?_
        refine own_go (B := T300.setTop (mkF m 81 #[.val (.long p1), .second, .val (.int p2), .val (.long p3), .second, .val (.long p4), .second, .val (.ref r_294), .val (.int (0 : Int32)), .val (.int (0 : Int32)), .val (.long cc), .second, .val (.ref b298), .val (.int (0 : Int32)), .unset, .unset, .unset, .unset] [])) (fun t k => XS.istore X300.here hx rfl (hb hby at_79) rfl (l' := #[.val (.long p1), .second, .val (.int p2), .val (.long p3), .second, .val (.long p4), .second, .val (.ref r_294), .val (.int (0 : Int32)), .val (.int (0 : Int32)), .val (.long cc), .second, .val (.ref b298), .val (.int (0 : Int32)), .unset, .unset, .unset, .unset]) rfl k) ?_
        refine own_go (B := T300.setTop (mkF m 83 #[.val (.long p1), .second, .val (.int p2), .val (.long p3), .second, .val (.long p4), .second, .val (.ref r_294), .val (.int (0 : Int32)), .val (.int (0 : Int32)), .val (.long cc), .second, .val (.ref b298), .val (.int (0 : Int32)), .unset, .unset, .unset, .unset] [(.int (0 : Int32))])) (fun t k => XS.iload X300.here hx rfl (hb hby at_81) rfl k) ?_
        refine own_go (B := T300.setTop (mkF m 97 #[.val (.long p1), .second, .val (.int p2), .val (.long p3), .second, .val (.long p4), .second, .val (.ref r_294), .val (.int (0 : Int32)), .val (.int (0 : Int32)), .val (.long cc), .second, .val (.ref b298), .val (.int (0 : Int32)), .unset, .unset, .unset, .unset] [])) (fun t k => XS.ifYes X300.here hx rfl (pc0 := 83) (pc' := 97) rfl (hb hby at_83) rfl ((if0 _ _).trans (teq (by decide : (0 : Int32) = (0 : Int32))).1) (by decide) (by decide) k) ?_
        refine own_go (B := T300.setTop (mkF m 99 #[.val (.long p1), .second, .val (.int p2), .val (.long p3), .second, .val (.long p4), .second, .val (.ref r_294), .val (.int (0 : Int32)), .val (.int (0 : Int32)), .val (.long cc), .second, .val (.ref b298), .val (.int (0 : Int32)), .unset, .unset, .unset, .unset] [(.ref b298)])) (fun t k => XS.aload X300.here hx rfl (hb hby at_97) rfl rfl k) ?_
        refine own_go (B := T300.setTop (mkF m 101 #[.val (.long p1), .second, .val (.int p2), .val (.long p3), .second, .val (.long p4), .second, .val (.ref r_294), .val (.int (0 : Int32)), .val (.int (0 : Int32)), .val (.long cc), .second, .val (.ref b298), .val (.int (0 : Int32)), .unset, .unset, .unset, .unset] [(.long p4), (.ref b298)])) (fun t k => XS.lload X300.here hx rfl (hb hby at_99) rfl k) ?_
        obtain ⟨cq303, kq303, q303a, q303b, q303c⟩ := isOf hZ (rfl : T300.heap = T300.heap) Q300_4
        obtain ⟨_, _, ⟨T303, L303, k303, n303⟩, -, X303, ⟨Lc303, hQ303, l303, y303, z303⟩, st303⟩ := X300.virtualBack hx (y := (⟨"com/example/interleave/interleave/engine/Transaction", "committedBy", "(J)Z"⟩ : MethodName)) (z := (⟨"com/example/interleave/interleave/engine/Transaction", "committedBy", "(J)Z"⟩ : MethodName)) hown (mvT hZ (hw _ (List.mem_of_getElem? (i := 115) rfl))) (mvT hZ (hw _ (List.mem_of_getElem? (i := 116) rfl))) (notFace_of_selects (args := #[]) (mvT hZ (hw _ (List.mem_of_getElem? (i := 118) rfl)))) (mvT hZ (hw _ (List.mem_of_getElem? (i := 118) rfl))) (mvT hZ (hw _ (List.mem_of_getElem? (i := 117) rfl))) (by decide) (backOf (W := 0) (own_rm_cby l Z a0 hw [] b298 p4 (0 : Int64) (0 : Int32) T300.heap n0 O300 Q300_7 (by simp [(by decide : (0 : Int64) = (0 : Int64))])) hZ (hw _ (List.mem_of_getElem? (i := 119) rfl)) (hw _ (List.mem_of_getElem? (i := 10) rfl)) (by decide) (by decide)) q303a q303c (g := (mkF m 101 #[.val (.long p1), .second, .val (.int p2), .val (.long p3), .second, .val (.long p4), .second, .val (.ref r_294), .val (.int (0 : Int32)), .val (.int (0 : Int32)), .val (.long cc), .second, .val (.ref b298), .val (.int (0 : Int32)), .unset, .unset, .unset, .unset] [(.long p4), (.ref b298)])) rfl (by rw [hml]; rfl) (Steps.refl _) (argsL := [(.long p4)]) (rest := []) (lenOf own_pd_5 rfl) rfl (by show 2 * 0 + _ ≤ _; exact Nat.le_of_eq rfl) (hb hby at_101) (fun _ _ => ⟨rfl, (rfl : T300.heap = T300.heap), (by decide : 6 + 0 ≤ _), (by decide : 29 + 0 ≤ _)⟩)
        dsimp only [Pt.U, Pt.locs, Pt.cells, Pt.slots] at X303 l303 y303 z303 st303 hQ303
        subst l303 y303 z303
        obtain ⟨rfl, N303q, eh303⟩ := hQ303
        have N303 := Fr.app N300 N303q
        refine own_go (B := T303.setTop (mkF m 104 #[.val (.long p1), .second, .val (.int p2), .val (.long p3), .second, .val (.long p4), .second, .val (.ref r_294), .val (.int (0 : Int32)), .val (.int (0 : Int32)), .val (.long cc), .second, .val (.ref b298), .val (.int (0 : Int32)), .unset, .unset, .unset, .unset] [(.int (0 : Int32))])) (fun t k => st303.trans k) ?_
        refine own_go (B := T303.setTop (mkF m 106 #[.val (.long p1), .second, .val (.int p2), .val (.long p3), .second, .val (.long p4), .second, .val (.ref r_294), .val (.int (0 : Int32)), .val (.int (0 : Int32)), .val (.long cc), .second, .val (.ref b298), .val (.int (0 : Int32)), .val (.int (0 : Int32)), .unset, .unset, .unset] [])) (fun t k => XS.istore X303.here hx rfl (hb hby at_104) rfl (l' := #[.val (.long p1), .second, .val (.int p2), .val (.long p3), .second, .val (.long p4), .second, .val (.ref r_294), .val (.int (0 : Int32)), .val (.int (0 : Int32)), .val (.long cc), .second, .val (.ref b298), .val (.int (0 : Int32)), .val (.int (0 : Int32)), .unset, .unset, .unset]) rfl k) ?_
        refine own_go (B := T303.setTop (mkF m 108 #[.val (.long p1), .second, .val (.int p2), .val (.long p3), .second, .val (.long p4), .second, .val (.ref r_294), .val (.int (0 : Int32)), .val (.int (0 : Int32)), .val (.long cc), .second, .val (.ref b298), .val (.int (0 : Int32)), .val (.int (0 : Int32)), .unset, .unset, .unset] [(.ref b298)])) (fun t k => XS.aload X303.here hx rfl (hb hby at_106) rfl rfl k) ?_
        refine own_go (B := T303.setTop (mkF m 110 #[.val (.long p1), .second, .val (.int p2), .val (.long p3), .second, .val (.long p4), .second, .val (.ref r_294), .val (.int (0 : Int32)), .val (.int (0 : Int32)), .val (.long cc), .second, .val (.ref b298), .val (.int (0 : Int32)), .val (.int (0 : Int32)), .unset, .unset, .unset] [(.long cc), (.ref b298)])) (fun t k => XS.lload X303.here hx rfl (hb hby at_108) rfl k) ?_
        obtain ⟨cq304, kq304, q304a, q304b, q304c⟩ := isOf hZ eh303 Q300_4
        obtain ⟨_, _, ⟨T304, L304, k304, n304⟩, -, X304, ⟨Lc304, hQ304, l304, y304, z304⟩, st304⟩ := X303.virtualBack hx (y := (⟨"com/example/interleave/interleave/engine/Transaction", "committedBy", "(J)Z"⟩ : MethodName)) (z := (⟨"com/example/interleave/interleave/engine/Transaction", "committedBy", "(J)Z"⟩ : MethodName)) hown (mvT hZ (hw _ (List.mem_of_getElem? (i := 115) rfl))) (mvT hZ (hw _ (List.mem_of_getElem? (i := 116) rfl))) (notFace_of_selects (args := #[]) (mvT hZ (hw _ (List.mem_of_getElem? (i := 118) rfl)))) (mvT hZ (hw _ (List.mem_of_getElem? (i := 118) rfl))) (mvT hZ (hw _ (List.mem_of_getElem? (i := 117) rfl))) (by decide) (backOf (W := 0) (own_rm_cby l Z a0 hw [] b298 cc (0 : Int64) (0 : Int32) T300.heap n0 O300 Q300_7 (by simp [(by decide : (0 : Int64) = (0 : Int64))])) hZ (hw _ (List.mem_of_getElem? (i := 119) rfl)) (hw _ (List.mem_of_getElem? (i := 10) rfl)) (by decide) (by decide)) q304a q304c (g := (mkF m 110 #[.val (.long p1), .second, .val (.int p2), .val (.long p3), .second, .val (.long p4), .second, .val (.ref r_294), .val (.int (0 : Int32)), .val (.int (0 : Int32)), .val (.long cc), .second, .val (.ref b298), .val (.int (0 : Int32)), .val (.int (0 : Int32)), .unset, .unset, .unset] [(.long cc), (.ref b298)])) rfl (by rw [hml]; rfl) (Steps.refl _) (argsL := [(.long cc)]) (rest := []) (lenOf own_pd_5 rfl) rfl (by show 2 * 0 + _ ≤ _; exact Nat.le_of_eq rfl) (hb hby at_110) (fun _ _ => ⟨rfl, eh303, (by decide : 6 + 0 ≤ _), (by decide : 29 + 0 ≤ _)⟩)
        dsimp only [Pt.U, Pt.locs, Pt.cells, Pt.slots] at X304 l304 y304 z304 st304 hQ304
        subst l304 y304 z304
        obtain ⟨rfl, N304q, eh304⟩ := hQ304
        have N304 := Fr.app N303 N304q
        refine own_go (B := T304.setTop (mkF m 113 #[.val (.long p1), .second, .val (.int p2), .val (.long p3), .second, .val (.long p4), .second, .val (.ref r_294), .val (.int (0 : Int32)), .val (.int (0 : Int32)), .val (.long cc), .second, .val (.ref b298), .val (.int (0 : Int32)), .val (.int (0 : Int32)), .unset, .unset, .unset] [(.int (0 : Int32))])) (fun t k => st304.trans k) ?_
        refine own_go (B := T304.setTop (mkF m 115 #[.val (.long p1), .second, .val (.int p2), .val (.long p3), .second, .val (.long p4), .second, .val (.ref r_294), .val (.int (0 : Int32)), .val (.int (0 : Int32)), .val (.long cc), .second, .val (.ref b298), .val (.int (0 : Int32)), .val (.int (0 : Int32)), .val (.int (0 : Int32)), .unset, .unset] [])) (fun t k => XS.istore X304.here hx rfl (hb hby at_113) rfl (l' := #[.val (.long p1), .second, .val (.int p2), .val (.long p3), .second, .val (.long p4), .second, .val (.ref r_294), .val (.int (0 : Int32)), .val (.int (0 : Int32)), .val (.long cc), .second, .val (.ref b298), .val (.int (0 : Int32)), .val (.int (0 : Int32)), .val (.int (0 : Int32)), .unset, .unset]) rfl k) ?_
        refine own_go (B := T304.setTop (mkF m 117 #[.val (.long p1), .second, .val (.int p2), .val (.long p3), .second, .val (.long p4), .second, .val (.ref r_294), .val (.int (0 : Int32)), .val (.int (0 : Int32)), .val (.long cc), .second, .val (.ref b298), .val (.int (0 : Int32)), .val (.int (0 : Int32)), .val (.int (0 : Int32)), .unset, .unset] [(.ref b298)])) (fun t k => XS.aload X304.here hx rfl (hb hby at_115) rfl rfl k) ?_
        refine own_go (B := T304.setTop (mkF m 119 #[.val (.long p1), .second, .val (.int p2), .val (.long p3), .second, .val (.long p4), .second, .val (.ref r_294), .val (.int (0 : Int32)), .val (.int (0 : Int32)), .val (.long cc), .second, .val (.ref b298), .val (.int (0 : Int32)), .val (.int (0 : Int32)), .val (.int (0 : Int32)), .unset, .unset] [(.long cc), (.ref b298)])) (fun t k => XS.lload X304.here hx rfl (hb hby at_117) rfl k) ?_
        refine own_go (B := T304.setTop (mkF m 120 #[.val (.long p1), .second, .val (.int p2), .val (.long p3), .second, .val (.long p4), .second, .val (.ref r_294), .val (.int (0 : Int32)), .val (.int (0 : Int32)), .val (.long cc), .second, .val (.ref b298), .val (.int (0 : Int32)), .val (.int (0 : Int32)), .val (.int (0 : Int32)), .unset, .unset] [(.long (1 : Int64)), (.long cc), (.ref b298)])) (fun t k => XS.lconst X304.here hx rfl (hb hby at_119) k) ?_
        refine own_go (B := T304.setTop (mkF m 121 #[.val (.long p1), .second, .val (.int p2), .val (.long p3), .second, .val (.long p4), .second, .val (.ref r_294), .val (.int (0 : Int32)), .val (.int (0 : Int32)), .val (.long cc), .second, .val (.ref b298), .val (.int (0 : Int32)), .val (.int (0 : Int32)), .val (.int (0 : Int32)), .unset, .unset] [(.long (cc - (1 : Int64))), (.ref b298)])) (fun t k => XS.lsub X304.here hx rfl (hb hby at_120) rfl k) ?_
        obtain ⟨cq305, kq305, q305a, q305b, q305c⟩ := isOf hZ eh304 Q300_4
        obtain ⟨_, _, ⟨T305, L305, k305, n305⟩, -, X305, ⟨Lc305, hQ305, l305, y305, z305⟩, st305⟩ := X304.virtualBack hx (y := (⟨"com/example/interleave/interleave/engine/Transaction", "committedBy", "(J)Z"⟩ : MethodName)) (z := (⟨"com/example/interleave/interleave/engine/Transaction", "committedBy", "(J)Z"⟩ : MethodName)) hown (mvT hZ (hw _ (List.mem_of_getElem? (i := 115) rfl))) (mvT hZ (hw _ (List.mem_of_getElem? (i := 116) rfl))) (notFace_of_selects (args := #[]) (mvT hZ (hw _ (List.mem_of_getElem? (i := 118) rfl)))) (mvT hZ (hw _ (List.mem_of_getElem? (i := 118) rfl))) (mvT hZ (hw _ (List.mem_of_getElem? (i := 117) rfl))) (by decide) (backOf (W := 0) (own_rm_cby l Z a0 hw [] b298 (cc - (1 : Int64)) (0 : Int64) (0 : Int32) T300.heap n0 O300 Q300_7 (by simp [(by decide : (0 : Int64) = (0 : Int64))])) hZ (hw _ (List.mem_of_getElem? (i := 119) rfl)) (hw _ (List.mem_of_getElem? (i := 10) rfl)) (by decide) (by decide)) q305a q305c (g := (mkF m 121 #[.val (.long p1), .second, .val (.int p2), .val (.long p3), .second, .val (.long p4), .second, .val (.ref r_294), .val (.int (0 : Int32)), .val (.int (0 : Int32)), .val (.long cc), .second, .val (.ref b298), .val (.int (0 : Int32)), .val (.int (0 : Int32)), .val (.int (0 : Int32)), .unset, .unset] [(.long (cc - (1 : Int64))), (.ref b298)])) rfl (by rw [hml]; rfl) (Steps.refl _) (argsL := [(.long (cc - (1 : Int64)))]) (rest := []) (lenOf own_pd_5 rfl) rfl (by show 2 * 0 + _ ≤ _; exact Nat.le_of_eq rfl) (hb hby at_121) (fun _ _ => ⟨rfl, eh304, (by decide : 6 + 0 ≤ _), (by decide : 29 + 0 ≤ _)⟩)
        dsimp only [Pt.U, Pt.locs, Pt.cells, Pt.slots] at X305 l305 y305 z305 st305 hQ305
        subst l305 y305 z305
        obtain ⟨rfl, N305q, eh305⟩ := hQ305
        have N305 := Fr.app N304 N305q
        refine own_go (B := T305.setTop (mkF m 124 #[.val (.long p1), .second, .val (.int p2), .val (.long p3), .second, .val (.long p4), .second, .val (.ref r_294), .val (.int (0 : Int32)), .val (.int (0 : Int32)), .val (.long cc), .second, .val (.ref b298), .val (.int (0 : Int32)), .val (.int (0 : Int32)), .val (.int (0 : Int32)), .unset, .unset] [(.int (0 : Int32))])) (fun t k => st305.trans k) ?_
        refine own_go (B := T305.setTop (mkF m 126 #[.val (.long p1), .second, .val (.int p2), .val (.long p3), .second, .val (.long p4), .second, .val (.ref r_294), .val (.int (0 : Int32)), .val (.int (0 : Int32)), .val (.long cc), .second, .val (.ref b298), .val (.int (0 : Int32)), .val (.int (0 : Int32)), .val (.int (0 : Int32)), .val (.int (0 : Int32)), .unset] [])) (fun t k => XS.istore X305.here hx rfl (hb hby at_124) rfl (l' := #[.val (.long p1), .second, .val (.int p2), .val (.long p3), .second, .val (.long p4), .second, .val (.ref r_294), .val (.int (0 : Int32)), .val (.int (0 : Int32)), .val (.long cc), .second, .val (.ref b298), .val (.int (0 : Int32)), .val (.int (0 : Int32)), .val (.int (0 : Int32)), .val (.int (0 : Int32)), .unset]) rfl k) ?_
        refine own_go (B := T305.setTop (mkF m 128 #[.val (.long p1), .second, .val (.int p2), .val (.long p3), .second, .val (.long p4), .second, .val (.ref r_294), .val (.int (0 : Int32)), .val (.int (0 : Int32)), .val (.long cc), .second, .val (.ref b298), .val (.int (0 : Int32)), .val (.int (0 : Int32)), .val (.int (0 : Int32)), .val (.int (0 : Int32)), .unset] [(.ref b298)])) (fun t k => XS.aload X305.here hx rfl (hb hby at_126) rfl rfl k) ?_
        refine own_go (B := T305.setTop (mkF m 131 #[.val (.long p1), .second, .val (.int p2), .val (.long p3), .second, .val (.long p4), .second, .val (.ref r_294), .val (.int (0 : Int32)), .val (.int (0 : Int32)), .val (.long cc), .second, .val (.ref b298), .val (.int (0 : Int32)), .val (.int (0 : Int32)), .val (.int (0 : Int32)), .val (.int (0 : Int32)), .unset] [(.long (9223372036854775807 : Int64)), (.ref b298)])) (fun t k => X305.ldc2Long hx hown (mvT hZ (hw _ (List.mem_of_getElem? (i := 7) rfl))) (g := (mkF m 128 #[.val (.long p1), .second, .val (.int p2), .val (.long p3), .second, .val (.long p4), .second, .val (.ref r_294), .val (.int (0 : Int32)), .val (.int (0 : Int32)), .val (.long cc), .second, .val (.ref b298), .val (.int (0 : Int32)), .val (.int (0 : Int32)), .val (.int (0 : Int32)), .val (.int (0 : Int32)), .unset] [(.ref b298)])) rfl (hb hby at_128) _ k) ?_
        obtain ⟨cq306, kq306, q306a, q306b, q306c⟩ := isOf hZ eh305 Q300_4
        obtain ⟨_, _, ⟨T306, L306, k306, n306⟩, -, X306, ⟨Lc306, hQ306, l306, y306, z306⟩, st306⟩ := X305.virtualBack hx (y := (⟨"com/example/interleave/interleave/engine/Transaction", "committedBy", "(J)Z"⟩ : MethodName)) (z := (⟨"com/example/interleave/interleave/engine/Transaction", "committedBy", "(J)Z"⟩ : MethodName)) hown (mvT hZ (hw _ (List.mem_of_getElem? (i := 115) rfl))) (mvT hZ (hw _ (List.mem_of_getElem? (i := 116) rfl))) (notFace_of_selects (args := #[]) (mvT hZ (hw _ (List.mem_of_getElem? (i := 118) rfl)))) (mvT hZ (hw _ (List.mem_of_getElem? (i := 118) rfl))) (mvT hZ (hw _ (List.mem_of_getElem? (i := 117) rfl))) (by decide) (backOf (W := 0) (own_rm_cby l Z a0 hw [] b298 (9223372036854775807 : Int64) (0 : Int64) (0 : Int32) T300.heap n0 O300 Q300_7 (by simp [(by decide : (0 : Int64) = (0 : Int64)), (by decide : ¬ ((9223372036854775807 : Int64) < (0 : Int64)))])) hZ (hw _ (List.mem_of_getElem? (i := 119) rfl)) (hw _ (List.mem_of_getElem? (i := 10) rfl)) (by decide) (by decide)) q306a q306c (g := (mkF m 131 #[.val (.long p1), .second, .val (.int p2), .val (.long p3), .second, .val (.long p4), .second, .val (.ref r_294), .val (.int (0 : Int32)), .val (.int (0 : Int32)), .val (.long cc), .second, .val (.ref b298), .val (.int (0 : Int32)), .val (.int (0 : Int32)), .val (.int (0 : Int32)), .val (.int (0 : Int32)), .unset] [(.long (9223372036854775807 : Int64)), (.ref b298)])) rfl (by rw [hml]; rfl) (Steps.refl _) (argsL := [(.long (9223372036854775807 : Int64))]) (rest := []) (lenOf own_pd_5 rfl) rfl (by show 2 * 0 + _ ≤ _; exact Nat.le_of_eq rfl) (hb hby at_131) (fun _ _ => ⟨rfl, eh305, (by decide : 6 + 0 ≤ _), (by decide : 29 + 0 ≤ _)⟩)
        dsimp only [Pt.U, Pt.locs, Pt.cells, Pt.slots] at X306 l306 y306 z306 st306 hQ306
        subst l306 y306 z306
        obtain ⟨rfl, N306q, eh306⟩ := hQ306
        have N306 := Fr.app N305 N306q
        refine own_go (B := T306.setTop (mkF m 134 #[.val (.long p1), .second, .val (.int p2), .val (.long p3), .second, .val (.long p4), .second, .val (.ref r_294), .val (.int (0 : Int32)), .val (.int (0 : Int32)), .val (.long cc), .second, .val (.ref b298), .val (.int (0 : Int32)), .val (.int (0 : Int32)), .val (.int (0 : Int32)), .val (.int (0 : Int32)), .unset] [(.int (0 : Int32))])) (fun t k => st306.trans k) ?_
        refine own_go (B := T306.setTop (mkF m 136 #[.val (.long p1), .second, .val (.int p2), .val (.long p3), .second, .val (.long p4), .second, .val (.ref r_294), .val (.int (0 : Int32)), .val (.int (0 : Int32)), .val (.long cc), .second, .val (.ref b298), .val (.int (0 : Int32)), .val (.int (0 : Int32)), .val (.int (0 : Int32)), .val (.int (0 : Int32)), .val (.int (0 : Int32))] [])) (fun t k => XS.istore X306.here hx rfl (hb hby at_134) rfl (l' := #[.val (.long p1), .second, .val (.int p2), .val (.long p3), .second, .val (.long p4), .second, .val (.ref r_294), .val (.int (0 : Int32)), .val (.int (0 : Int32)), .val (.long cc), .second, .val (.ref b298), .val (.int (0 : Int32)), .val (.int (0 : Int32)), .val (.int (0 : Int32)), .val (.int (0 : Int32)), .val (.int (0 : Int32))]) rfl k) ?_
        refine own_go (B := T306.setTop (mkF m 138 #[.val (.long p1), .second, .val (.int p2), .val (.long p3), .second, .val (.long p4), .second, .val (.ref r_294), .val (.int (0 : Int32)), .val (.int (0 : Int32)), .val (.long cc), .second, .val (.ref b298), .val (.int (0 : Int32)), .val (.int (0 : Int32)), .val (.int (0 : Int32)), .val (.int (0 : Int32)), .val (.int (0 : Int32))] [(.int (0 : Int32))])) (fun t k => XS.iload X306.here hx rfl (hb hby at_136) rfl k) ?_
        refine own_go (B := T306.setTop (mkF m 140 #[.val (.long p1), .second, .val (.int p2), .val (.long p3), .second, .val (.long p4), .second, .val (.ref r_294), .val (.int (0 : Int32)), .val (.int (0 : Int32)), .val (.long cc), .second, .val (.ref b298), .val (.int (0 : Int32)), .val (.int (0 : Int32)), .val (.int (0 : Int32)), .val (.int (0 : Int32)), .val (.int (0 : Int32))] [(.int (0 : Int32)), (.int (0 : Int32))])) (fun t k => XS.iload X306.here hx rfl (hb hby at_138) rfl k) ?_
        refine own_go (B := T306.setTop (mkF m 143 #[.val (.long p1), .second, .val (.int p2), .val (.long p3), .second, .val (.long p4), .second, .val (.ref r_294), .val (.int (0 : Int32)), .val (.int (0 : Int32)), .val (.long cc), .second, .val (.ref b298), .val (.int (0 : Int32)), .val (.int (0 : Int32)), .val (.int (0 : Int32)), .val (.int (0 : Int32)), .val (.int (0 : Int32))] [])) (fun t k => XS.icmpNo X306.here hx rfl (hb hby at_140) rfl (teq (by decide : (0 : Int32) = (0 : Int32))).2 k) ?_
        refine own_go (B := T306.setTop (mkF m 145 #[.val (.long p1), .second, .val (.int p2), .val (.long p3), .second, .val (.long p4), .second, .val (.ref r_294), .val (.int (0 : Int32)), .val (.int (0 : Int32)), .val (.long cc), .second, .val (.ref b298), .val (.int (0 : Int32)), .val (.int (0 : Int32)), .val (.int (0 : Int32)), .val (.int (0 : Int32)), .val (.int (0 : Int32))] [(.int (0 : Int32))])) (fun t k => XS.iload X306.here hx rfl (hb hby at_143) rfl k) ?_
        refine own_go (B := T306.setTop (mkF m 147 #[.val (.long p1), .second, .val (.int p2), .val (.long p3), .second, .val (.long p4), .second, .val (.ref r_294), .val (.int (0 : Int32)), .val (.int (0 : Int32)), .val (.long cc), .second, .val (.ref b298), .val (.int (0 : Int32)), .val (.int (0 : Int32)), .val (.int (0 : Int32)), .val (.int (0 : Int32)), .val (.int (0 : Int32))] [(.int (0 : Int32)), (.int (0 : Int32))])) (fun t k => XS.iload X306.here hx rfl (hb hby at_145) rfl k) ?_
        refine own_go (B := T306.setTop (mkF m 150 #[.val (.long p1), .second, .val (.int p2), .val (.long p3), .second, .val (.long p4), .second, .val (.ref r_294), .val (.int (0 : Int32)), .val (.int (0 : Int32)), .val (.long cc), .second, .val (.ref b298), .val (.int (0 : Int32)), .val (.int (0 : Int32)), .val (.int (0 : Int32)), .val (.int (0 : Int32)), .val (.int (0 : Int32))] [])) (fun t k => XS.icmpNo X306.here hx rfl (hb hby at_147) rfl (teq (by decide : (0 : Int32) = (0 : Int32))).2 k) ?_
        refine own_go (B := T306.setTop (mkF m 152 #[.val (.long p1), .second, .val (.int p2), .val (.long p3), .second, .val (.long p4), .second, .val (.ref r_294), .val (.int (0 : Int32)), .val (.int (0 : Int32)), .val (.long cc), .second, .val (.ref b298), .val (.int (0 : Int32)), .val (.int (0 : Int32)), .val (.int (0 : Int32)), .val (.int (0 : Int32)), .val (.int (0 : Int32))] [(.int (0 : Int32))])) (fun t k => XS.iload X306.here hx rfl (hb hby at_150) rfl k) ?_
        refine own_go (B := T306.setTop (mkF m 155 #[.val (.long p1), .second, .val (.int p2), .val (.long p3), .second, .val (.long p4), .second, .val (.ref r_294), .val (.int (0 : Int32)), .val (.int (0 : Int32)), .val (.long cc), .second, .val (.ref b298), .val (.int (0 : Int32)), .val (.int (0 : Int32)), .val (.int (0 : Int32)), .val (.int (0 : Int32)), .val (.int (0 : Int32))] [])) (fun t k => XS.ifNo X306.here hx rfl (hb hby at_152) rfl ((if0 _ _).trans (teq (by decide : (0 : Int32) = (0 : Int32))).2) k) ?_
        refine own_go (B := T306.setTop (mkF m 157 #[.val (.long p1), .second, .val (.int p2), .val (.long p3), .second, .val (.long p4), .second, .val (.ref r_294), .val (.int (0 : Int32)), .val (.int (0 : Int32)), .val (.long cc), .second, .val (.ref b298), .val (.int (0 : Int32)), .val (.int (0 : Int32)), .val (.int (0 : Int32)), .val (.int (0 : Int32)), .val (.int (0 : Int32))] [(.int (0 : Int32))])) (fun t k => XS.iload X306.here hx rfl (hb hby at_155) rfl k) ?_
        refine own_go (B := T306.setTop (mkF m 159 #[.val (.long p1), .second, .val (.int p2), .val (.long p3), .second, .val (.long p4), .second, .val (.ref r_294), .val (.int (0 : Int32)), .val (.int (0 : Int32)), .val (.long cc), .second, .val (.ref b298), .val (.int (0 : Int32)), .val (.int (0 : Int32)), .val (.int (0 : Int32)), .val (.int (0 : Int32)), .val (.int (0 : Int32))] [(.int (0 : Int32)), (.int (0 : Int32))])) (fun t k => XS.iload X306.here hx rfl (hb hby at_157) rfl k) ?_
        refine own_go (B := T306.setTop (mkF m 162 #[.val (.long p1), .second, .val (.int p2), .val (.long p3), .second, .val (.long p4), .second, .val (.ref r_294), .val (.int (0 : Int32)), .val (.int (0 : Int32)), .val (.long cc), .second, .val (.ref b298), .val (.int (0 : Int32)), .val (.int (0 : Int32)), .val (.int (0 : Int32)), .val (.int (0 : Int32)), .val (.int (0 : Int32))] [])) (fun t k => XS.icmpNo X306.here hx rfl (hb hby at_159) rfl (teq (by decide : (0 : Int32) = (0 : Int32))).2 k) ?_
        refine own_go (B := T306.setTop (mkF m 163 #[.val (.long p1), .second, .val (.int p2), .val (.long p3), .second, .val (.long p4), .second, .val (.ref r_294), .val (.int (0 : Int32)), .val (.int (0 : Int32)), .val (.long cc), .second, .val (.ref b298), .val (.int (0 : Int32)), .val (.int (0 : Int32)), .val (.int (0 : Int32)), .val (.int (0 : Int32)), .val (.int (0 : Int32))] [(.int (1 : Int32))])) (fun t k => XS.iconst X306.here hx rfl (hb hby at_162) k) ?_
        refine own_go (B := T306.setTop (mkF m 167 #[.val (.long p1), .second, .val (.int p2), .val (.long p3), .second, .val (.long p4), .second, .val (.ref r_294), .val (.int (0 : Int32)), .val (.int (0 : Int32)), .val (.long cc), .second, .val (.ref b298), .val (.int (0 : Int32)), .val (.int (0 : Int32)), .val (.int (0 : Int32)), .val (.int (0 : Int32)), .val (.int (0 : Int32))] [(.int (1 : Int32))])) (fun t k => XS.goto X306.here hx rfl (pc0 := 163) (pc' := 167) rfl (hb hby at_163) (by decide) (by decide) k) ?_
        obtain ⟨fs, hr, hrun, hended, hW, hsame⟩ := X306.leave (v := some (.int (1 : Int32))) (fun h => by rw [Bd.returns] at h; cases h)
        refine ⟨_, _, retN X306 hx (t := .boolean) Bd.returns (by simp) (hb hby at_167) hr, hK _ _ ⟨hrun, hended, _, _, rfl, ?_, ⟨_, rfl⟩, hW, hsame.mono (by decide) (by decide)⟩⟩
        show own_Q_law Z p1 p2 p3 p4 w_REPEATABLE_READ w_READ_UNCOMMITTED w_READ_COMMITTED w_SERIALIZABLE w_DEF h0 n0 _ T306.heap _
        rw [eh306]
        exact ⟨rfl, N306⟩
      by_cases hc46_312 : c0 = (0 : Int64)
      · refine own_go (B := T294.setTop (mkF m 49 #[.val (.long p1), .second, .val (.int p2), .val (.long p3), .second, .val (.long p4), .second, .val (.ref r_294), .val (.int (0 : Int32)), .val (.int (0 : Int32)), .val (.long c0), .second, .unset, .unset, .unset, .unset, .unset, .unset] [])) (fun t k => XS.ifNo X294.here hx rfl (hb hby at_46) rfl ((if0 _ _).trans (teq ((lw_eq c0 (0 : Int64)).mpr hc46_312)).2) k) ?_
        refine own_go (B := T294.setTop (mkF m 50 #[.val (.long p1), .second, .val (.int p2), .val (.long p3), .second, .val (.long p4), .second, .val (.ref r_294), .val (.int (0 : Int32)), .val (.int (0 : Int32)), .val (.long c0), .second, .unset, .unset, .unset, .unset, .unset, .unset] [(.long (1 : Int64))])) (fun t k => XS.lconst X294.here hx rfl (hb hby at_49) k) ?_
        refine own_go (B := T294.setTop (mkF m 52 #[.val (.long p1), .second, .val (.int p2), .val (.long p3), .second, .val (.long p4), .second, .val (.ref r_294), .val (.int (0 : Int32)), .val (.int (0 : Int32)), .val (.long (1 : Int64)), .second, .unset, .unset, .unset, .unset, .unset, .unset] [])) (fun t k => XS.lstore X294.here hx rfl (hb hby at_50) rfl (l' := #[.val (.long p1), .second, .val (.int p2), .val (.long p3), .second, .val (.long p4), .second, .val (.ref r_294), .val (.int (0 : Int32)), .val (.int (0 : Int32)), .val (.long (1 : Int64)), .second, .unset, .unset, .unset, .unset, .unset, .unset]) rfl k) ?_
        exact J297 _ _ X294 N294 eh294 (1 : Int64) (by decide)
      · refine own_go (B := T294.setTop (mkF m 52 #[.val (.long p1), .second, .val (.int p2), .val (.long p3), .second, .val (.long p4), .second, .val (.ref r_294), .val (.int (0 : Int32)), .val (.int (0 : Int32)), .val (.long c0), .second, .unset, .unset, .unset, .unset, .unset, .unset] [])) (fun t k => XS.ifYes X294.here hx rfl (pc0 := 46) (pc' := 52) rfl (hb hby at_46) rfl ((if0 _ _).trans (feq (fun q => hc46_312 ((lw_eq c0 (0 : Int64)).mp q))).2) (by decide) (by decide) k) ?_
        exact J297 _ _ X294 N294 eh294 c0 (by rw [hc0]; exact own_c1 p3 (by rw [← hc0]; exact hc46_312))
    · refine own_go (B := T294.setTop (mkF m 28 #[.val (.long p1), .second, .val (.int p2), .val (.long p3), .second, .val (.long p4), .second, .val (.ref r_294), .val (.int (0 : Int32)), .unset, .unset, .unset, .unset, .unset, .unset, .unset, .unset, .unset] [])) (fun t k => XS.ifNo X294.here hx rfl (hb hby at_25) rfl ((if0 _ _).trans (feq hc25_296).1) k) ?_
      refine own_go (B := T294.setTop (mkF m 29 #[.val (.long p1), .second, .val (.int p2), .val (.long p3), .second, .val (.long p4), .second, .val (.ref r_294), .val (.int (0 : Int32)), .unset, .unset, .unset, .unset, .unset, .unset, .unset, .unset, .unset] [(.int (1 : Int32))])) (fun t k => XS.iconst X294.here hx rfl (hb hby at_28) k) ?_
      refine own_go (B := T294.setTop (mkF m 33 #[.val (.long p1), .second, .val (.int p2), .val (.long p3), .second, .val (.long p4), .second, .val (.ref r_294), .val (.int (0 : Int32)), .unset, .unset, .unset, .unset, .unset, .unset, .unset, .unset, .unset] [(.int (1 : Int32))])) (fun t k => XS.goto X294.here hx rfl (pc0 := 29) (pc' := 33) rfl (hb hby at_29) (by decide) (by decide) k) ?_
      refine own_go (B := T294.setTop (mkF m 35 #[.val (.long p1), .second, .val (.int p2), .val (.long p3), .second, .val (.long p4), .second, .val (.ref r_294), .val (.int (0 : Int32)), .val (.int (1 : Int32)), .unset, .unset, .unset, .unset, .unset, .unset, .unset, .unset] [])) (fun t k => XS.istore X294.here hx rfl (hb hby at_33) rfl (l' := #[.val (.long p1), .second, .val (.int p2), .val (.long p3), .second, .val (.long p4), .second, .val (.ref r_294), .val (.int (0 : Int32)), .val (.int (1 : Int32)), .unset, .unset, .unset, .unset, .unset, .unset, .unset, .unset]) rfl k) ?_
      refine own_go (B := T294.setTop (mkF m 36 #[.val (.long p1), .second, .val (.int p2), .val (.long p3), .second, .val (.long p4), .second, .val (.ref r_294), .val (.int (0 : Int32)), .val (.int (1 : Int32)), .unset, .unset, .unset, .unset, .unset, .unset, .unset, .unset] [(.long p3)])) (fun t k => XS.lloadN X294.here hx rfl (hb hby at_35) rfl k) ?_
      refine own_go (B := T294.setTop (mkF m 39 #[.val (.long p1), .second, .val (.int p2), .val (.long p3), .second, .val (.long p4), .second, .val (.ref r_294), .val (.int (0 : Int32)), .val (.int (1 : Int32)), .unset, .unset, .unset, .unset, .unset, .unset, .unset, .unset] [(.long (9223372036854775807 : Int64)), (.long p3)])) (fun t k => X294.ldc2Long hx hown (mvT hZ (hw _ (List.mem_of_getElem? (i := 7) rfl))) (g := (mkF m 36 #[.val (.long p1), .second, .val (.int p2), .val (.long p3), .second, .val (.long p4), .second, .val (.ref r_294), .val (.int (0 : Int32)), .val (.int (1 : Int32)), .unset, .unset, .unset, .unset, .unset, .unset, .unset, .unset] [(.long p3)])) rfl (hb hby at_36) _ k) ?_
      refine own_go (B := T294.setTop (mkF m 40 #[.val (.long p1), .second, .val (.int p2), .val (.long p3), .second, .val (.long p4), .second, .val (.ref r_294), .val (.int (0 : Int32)), .val (.int (1 : Int32)), .unset, .unset, .unset, .unset, .unset, .unset, .unset, .unset] [(.long (p3 &&& (9223372036854775807 : Int64)))])) (fun t k => XS.land X294.here hx rfl (hb hby at_39) rfl k) ?_
      refine own_go (B := T294.setTop (mkF m 42 #[.val (.long p1), .second, .val (.int p2), .val (.long p3), .second, .val (.long p4), .second, .val (.ref r_294), .val (.int (0 : Int32)), .val (.int (1 : Int32)), .val (.long (p3 &&& (9223372036854775807 : Int64))), .second, .unset, .unset, .unset, .unset, .unset, .unset] [])) (fun t k => XS.lstore X294.here hx rfl (hb hby at_40) rfl (l' := #[.val (.long p1), .second, .val (.int p2), .val (.long p3), .second, .val (.long p4), .second, .val (.ref r_294), .val (.int (0 : Int32)), .val (.int (1 : Int32)), .val (.long (p3 &&& (9223372036854775807 : Int64))), .second, .unset, .unset, .unset, .unset, .unset, .unset]) rfl k) ?_
      obtain ⟨c0, hc0⟩ : ∃ z, z = (p3 &&& (9223372036854775807 : Int64)) := ⟨_, rfl⟩
      rw [← hc0]
      refine own_go (B := T294.setTop (mkF m 44 #[.val (.long p1), .second, .val (.int p2), .val (.long p3), .second, .val (.long p4), .second, .val (.ref r_294), .val (.int (0 : Int32)), .val (.int (1 : Int32)), .val (.long c0), .second, .unset, .unset, .unset, .unset, .unset, .unset] [(.long c0)])) (fun t k => XS.lload X294.here hx rfl (hb hby at_42) rfl k) ?_
      refine own_go (B := T294.setTop (mkF m 45 #[.val (.long p1), .second, .val (.int p2), .val (.long p3), .second, .val (.long p4), .second, .val (.ref r_294), .val (.int (0 : Int32)), .val (.int (1 : Int32)), .val (.long c0), .second, .unset, .unset, .unset, .unset, .unset, .unset] [(.long (0 : Int64)), (.long c0)])) (fun t k => XS.lconst X294.here hx rfl (hb hby at_44) k) ?_
      refine own_go (B := T294.setTop (mkF m 46 #[.val (.long p1), .second, .val (.int p2), .val (.long p3), .second, .val (.long p4), .second, .val (.ref r_294), .val (.int (0 : Int32)), .val (.int (1 : Int32)), .val (.long c0), .second, .unset, .unset, .unset, .unset, .unset, .unset] [(.int (lcmpW c0 (0 : Int64)))])) (fun t k => XS.lcmp X294.here hx rfl (hb hby at_45) rfl k) ?_
      have J313 : ∀ (T313 : State) (lc313 : List Loc) (X313 : Stand p l e room_1 s m #[(.long p1), (.int p2), (.long p3), (.long p4)] below meth c T313 lc313 0 0) (N313 : Fr n0 lc313) (e313 : T313.heap = h0) (cc : Int64), (0 : Int64) < cc → own_Ends p.tables e below (T313.setTop (mkF m 52 #[.val (.long p1), .second, .val (.int p2), .val (.long p3), .second, .val (.long p4), .second, .val (.ref r_294), .val (.int (0 : Int32)), .val (.int (1 : Int32)), .val (.long cc), .second, .unset, .unset, .unset, .unset, .unset, .unset] [])) K := by
        intro T313 lc313 X313 N313 e313 cc hrel313
        obtain ⟨hz1, hz2, hz3⟩ := own_cs cc hrel313
        obtain ⟨T314, h314, X314, e314, E314, A314, D314, -, st314⟩ := newO X313 hx hZ hown (hw _ (List.mem_of_getElem? (i := 8) rfl)) (hw _ (List.mem_of_getElem? (i := 9) rfl)) (hw _ (List.mem_of_getElem? (i := 10) rfl)) e313 (g := (mkF m 52 #[.val (.long p1), .second, .val (.int p2), .val (.long p3), .second, .val (.long p4), .second, .val (.ref r_294), .val (.int (0 : Int32)), .val (.int (1 : Int32)), .val (.long cc), .second, .unset, .unset, .unset, .unset, .unset, .unset] [])) rfl (hb hby at_52) (by decide) (by decide)
        obtain ⟨b314, g314⟩ : ∃ z, z = h0.size := ⟨_, rfl⟩
        rw [← g314] at A314 D314 st314
        have g_b314 : n0 ≤ b314 := Nat.le_trans (own_n0 O0) (Nat.le_of_eq g314.symm)
        have O314 := O0.ext E314
        have F314_75 : Fld Z h314 b314 "com/example/interleave/interleave/engine/Transaction" "undo" "Lcom/example/interleave/interleave/engine/UndoLog;" .null := D314 (Or.inr (hw _ (List.mem_of_getElem? (i := 75) rfl))) (ty := (.object "com/example/interleave/interleave/engine/UndoLog")) (by decide)
        have F314_103 : Fld Z h314 b314 "com/example/interleave/interleave/engine/Transaction" "written" "Ljava/util/Map;" .null := D314 (Or.inr (hw _ (List.mem_of_getElem? (i := 103) rfl))) (ty := (.object "java/util/Map")) (by decide)
        have F314_106 : Fld Z h314 b314 "com/example/interleave/interleave/engine/Transaction" "snapshot" "J" (.long (0 : Int64)) := D314 (Or.inl (hw _ (List.mem_of_getElem? (i := 106) rfl))) (ty := .long) (by decide)
        have F314_108 : Fld Z h314 b314 "com/example/interleave/interleave/engine/Transaction" "commitNumber" "J" (.long (0 : Int64)) := D314 (Or.inl (hw _ (List.mem_of_getElem? (i := 108) rfl))) (ty := .long) (by decide)
        have F314_110 : Fld Z h314 b314 "com/example/interleave/interleave/engine/Transaction" "beginNumber" "J" (.long (0 : Int64)) := D314 (Or.inr (hw _ (List.mem_of_getElem? (i := 110) rfl))) (ty := .long) (by decide)
        have F314_112 : Fld Z h314 b314 "com/example/interleave/interleave/engine/Transaction" "level" "Lcom/example/interleave/interleave/sql/IsolationLevel;" .null := D314 (Or.inr (hw _ (List.mem_of_getElem? (i := 112) rfl))) (ty := (.object "com/example/interleave/interleave/sql/IsolationLevel")) (by decide)
        have F314_114 : Fld Z h314 b314 "com/example/interleave/interleave/engine/Transaction" "autocommit" "Z" (.int (0 : Int32)) := D314 (Or.inr (hw _ (List.mem_of_getElem? (i := 114) rfl))) (ty := .boolean) (by decide)
        refine own_go (B := T314.setTop (mkF m 55 #[.val (.long p1), .second, .val (.int p2), .val (.long p3), .second, .val (.long p4), .second, .val (.ref r_294), .val (.int (0 : Int32)), .val (.int (1 : Int32)), .val (.long cc), .second, .unset, .unset, .unset, .unset, .unset, .unset] [(.ref b314)])) (fun t k => st314 _ k) ?_
        refine own_go (B := T314.setTop (mkF m 56 #[.val (.long p1), .second, .val (.int p2), .val (.long p3), .second, .val (.long p4), .second, .val (.ref r_294), .val (.int (0 : Int32)), .val (.int (1 : Int32)), .val (.long cc), .second, .unset, .unset, .unset, .unset, .unset, .unset] [(.ref b314), (.ref b314)])) (fun t k => XS.dup X314.here hx rfl (hb hby at_55) rfl rfl k) ?_
        refine own_go (B := T314.setTop (mkF m 57 #[.val (.long p1), .second, .val (.int p2), .val (.long p3), .second, .val (.long p4), .second, .val (.ref r_294), .val (.int (0 : Int32)), .val (.int (1 : Int32)), .val (.long cc), .second, .unset, .unset, .unset, .unset, .unset, .unset] [(.long p1), (.ref b314), (.ref b314)])) (fun t k => XS.lloadN X314.here hx rfl (hb hby at_56) rfl k) ?_
        refine own_go (B := T314.setTop (mkF m 59 #[.val (.long p1), .second, .val (.int p2), .val (.long p3), .second, .val (.long p4), .second, .val (.ref r_294), .val (.int (0 : Int32)), .val (.int (1 : Int32)), .val (.long cc), .second, .unset, .unset, .unset, .unset, .unset, .unset] [(.ref r_294), (.long p1), (.ref b314), (.ref b314)])) (fun t k => XS.aload X314.here hx rfl (hb hby at_57) rfl rfl k) ?_
        refine own_go (B := T314.setTop (mkF m 61 #[.val (.long p1), .second, .val (.int p2), .val (.long p3), .second, .val (.long p4), .second, .val (.ref r_294), .val (.int (0 : Int32)), .val (.int (1 : Int32)), .val (.long cc), .second, .unset, .unset, .unset, .unset, .unset, .unset] [(.int (0 : Int32)), (.ref r_294), (.long p1), (.ref b314), (.ref b314)])) (fun t k => XS.iload X314.here hx rfl (hb hby at_59) rfl k) ?_
        have lt_b314_315 := A314.lt
        obtain ⟨_, _, ⟨T316, L316, k316, n316⟩, -, X316, ⟨Lc316, hQ316, l316, y316, z316⟩, st316⟩ := X314.specialBack hx (y := (⟨"com/example/interleave/interleave/engine/Transaction", "<init>", "(JLcom/example/interleave/interleave/sql/IsolationLevel;Z)V"⟩ : MethodName)) rfl hown (mvT hZ (hw _ (List.mem_of_getElem? (i := 11) rfl))) (mvT hZ (hw _ (List.mem_of_getElem? (i := 12) rfl))) (mvT hZ (hw _ (List.mem_of_getElem? (i := 13) rfl))) (by decide) (backOf (W := 1) (own_rm_tr0 l Z a0 hw [] b314 r_294 w_DEF p1 h314 n0 O314 S_DEF A314 g_b314 F314_75 F314_103 F314_106 F314_108 F314_110 F314_112 F314_114) hZ (hw _ (List.mem_of_getElem? (i := 13) rfl)) (hw _ (List.mem_of_getElem? (i := 10) rfl)) (by decide) (by decide)) (g := (mkF m 61 #[.val (.long p1), .second, .val (.int p2), .val (.long p3), .second, .val (.long p4), .second, .val (.ref r_294), .val (.int (0 : Int32)), .val (.int (1 : Int32)), .val (.long cc), .second, .unset, .unset, .unset, .unset, .unset, .unset] [(.int (0 : Int32)), (.ref r_294), (.long p1), (.ref b314), (.ref b314)])) rfl (by rw [hml]; rfl) (Steps.refl _) (a := b314) (argsL := [(.long p1), (.ref r_294), (.int (0 : Int32))]) (rest := [(.ref b314)]) (lenOf own_pd_4 rfl) rfl (by show 2 * 0 + _ ≤ _; exact Nat.le_of_eq rfl) (hb hby at_61) (fun _ _ => ⟨rfl, e314, (by decide : 1 + 5 ≤ _), (by decide : 8 + 21 ≤ _)⟩)
        dsimp only [Pt.U, Pt.locs, Pt.cells, Pt.slots] at X316 l316 y316 z316 st316 hQ316
        subst l316 y316 z316
        obtain ⟨un_316, wr_316, en_316, ch_316, rfl, N316q, Kc316, Q316_0, Q316_1, Q316_2, Q316_3, Q316_4, Q316_5, Q316_6, Q316_7, Q316_8, Q316_9, Q316_10, Q316_11, Q316_12, Q316_13, Q316_14, Q316_15, Q316_16, Q316_17, Q316_18, Q316_19, Q316_20, Q316_21⟩ := hQ316
        have O316 := O314.keep Kc316 (allS g_b314 all0)
        have N316 := Fr.app N313 N316q
        refine own_go (B := T316.setTop (mkF m 64 #[.val (.long p1), .second, .val (.int p2), .val (.long p3), .second, .val (.long p4), .second, .val (.ref r_294), .val (.int (0 : Int32)), .val (.int (1 : Int32)), .val (.long cc), .second, .unset, .unset, .unset, .unset, .unset, .unset] [(.ref b314)])) (fun t k => st316.trans k) ?_
        have g_un_316 : n0 ≤ un_316 := Nat.le_trans (own_n0 O314) Q316_0
        have g_wr_316 : n0 ≤ wr_316 := Nat.le_trans (own_n0 O314) Q316_1
        have g_en_316 : n0 ≤ en_316 := Nat.le_trans (own_n0 O314) Q316_2
        have g_ch_316 : n0 ≤ ch_316 := Nat.le_trans (own_n0 O314) Q316_3
        refine own_go (B := T316.setTop (mkF m 66 #[.val (.long p1), .second, .val (.int p2), .val (.long p3), .second, .val (.long p4), .second, .val (.ref r_294), .val (.int (0 : Int32)), .val (.int (1 : Int32)), .val (.long cc), .second, .val (.ref b314), .unset, .unset, .unset, .unset, .unset] [])) (fun t k => XS.astore X316.here hx rfl (hb hby at_64) rfl rfl (l' := #[.val (.long p1), .second, .val (.int p2), .val (.long p3), .second, .val (.long p4), .second, .val (.ref r_294), .val (.int (0 : Int32)), .val (.int (1 : Int32)), .val (.long cc), .second, .val (.ref b314), .unset, .unset, .unset, .unset, .unset]) rfl k) ?_
        refine own_go (B := T316.setTop (mkF m 68 #[.val (.long p1), .second, .val (.int p2), .val (.long p3), .second, .val (.long p4), .second, .val (.ref r_294), .val (.int (0 : Int32)), .val (.int (1 : Int32)), .val (.long cc), .second, .val (.ref b314), .unset, .unset, .unset, .unset, .unset] [(.int (1 : Int32))])) (fun t k => XS.iload X316.here hx rfl (hb hby at_66) rfl k) ?_
        refine own_go (B := T316.setTop (mkF m 71 #[.val (.long p1), .second, .val (.int p2), .val (.long p3), .second, .val (.long p4), .second, .val (.ref r_294), .val (.int (0 : Int32)), .val (.int (1 : Int32)), .val (.long cc), .second, .val (.ref b314), .unset, .unset, .unset, .unset, .unset] [])) (fun t k => XS.ifNo X316.here hx rfl (hb hby at_68) rfl ((if0 _ _).trans (feq (by decide : ¬ ((1 : Int32) = (0 : Int32)))).1) k) ?_
        refine own_go (B := T316.setTop (mkF m 73 #[.val (.long p1), .second, .val (.int p2), .val (.long p3), .second, .val (.long p4), .second, .val (.ref r_294), .val (.int (0 : Int32)), .val (.int (1 : Int32)), .val (.long cc), .second, .val (.ref b314), .unset, .unset, .unset, .unset, .unset] [(.ref b314)])) (fun t k => XS.aload X316.here hx rfl (hb hby at_71) rfl rfl k) ?_
        refine own_go (B := T316.setTop (mkF m 75 #[.val (.long p1), .second, .val (.int p2), .val (.long p3), .second, .val (.long p4), .second, .val (.ref r_294), .val (.int (0 : Int32)), .val (.int (1 : Int32)), .val (.long cc), .second, .val (.ref b314), .unset, .unset, .unset, .unset, .unset] [(.long cc), (.ref b314)])) (fun t k => XS.lload X316.here hx rfl (hb hby at_73) rfl k) ?_
        have lt_b314_318 := Q316_4.lt
        have lt_un_316_318 := Q316_8.lt
        have lt_en_316_318 := Q316_11.lt
        have lt_ch_316_318 := Q316_15.lt
        have lt_wr_316_318 := Q316_17.lt
        obtain ⟨cq319, kq319, q319a, q319b, q319c⟩ := isOf hZ (rfl : T316.heap = T316.heap) Q316_4
        obtain ⟨_, _, ⟨T319, L319, k319, n319⟩, -, X319, ⟨Lc319, hQ319, l319, y319, z319⟩, st319⟩ := X316.virtualBack hx (y := (⟨"com/example/interleave/interleave/engine/Transaction", "commit", "(J)V"⟩ : MethodName)) (z := (⟨"com/example/interleave/interleave/engine/Transaction", "commit", "(J)V"⟩ : MethodName)) hown (mvT hZ (hw _ (List.mem_of_getElem? (i := 122) rfl))) (mvT hZ (hw _ (List.mem_of_getElem? (i := 123) rfl))) (notFace_of_selects (args := #[]) (mvT hZ (hw _ (List.mem_of_getElem? (i := 125) rfl)))) (mvT hZ (hw _ (List.mem_of_getElem? (i := 125) rfl))) (mvT hZ (hw _ (List.mem_of_getElem? (i := 124) rfl))) (by decide) (backOf (W := 0) (own_rm_commit l Z a0 hw [] b314 un_316 wr_316 en_316 ch_316 w_DEF cc T316.heap n0 O316 Q316_4 Q316_5 Q316_6 Q316_7 Q316_8 Q316_9 Q316_10 Q316_11 Q316_12 Q316_13 Q316_14 Q316_15 Q316_16 Q316_17 Q316_18 Q316_19 Q316_20 Q316_21 g_b314 g_wr_316 g_en_316) hZ (hw _ (List.mem_of_getElem? (i := 126) rfl)) (hw _ (List.mem_of_getElem? (i := 10) rfl)) (by decide) (by decide)) q319a q319c (g := (mkF m 75 #[.val (.long p1), .second, .val (.int p2), .val (.long p3), .second, .val (.long p4), .second, .val (.ref r_294), .val (.int (0 : Int32)), .val (.int (1 : Int32)), .val (.long cc), .second, .val (.ref b314), .unset, .unset, .unset, .unset, .unset] [(.long cc), (.ref b314)])) rfl (by rw [hml]; rfl) (Steps.refl _) (argsL := [(.long cc)]) (rest := []) (lenOf own_pd_6 rfl) rfl (by show 2 * 0 + _ ≤ _; exact Nat.le_of_eq rfl) (hb hby at_75) (fun _ _ => ⟨rfl, (rfl : T316.heap = T316.heap), (by decide : 6 + 0 ≤ _), (by decide : 29 + 0 ≤ _)⟩)
        dsimp only [Pt.U, Pt.locs, Pt.cells, Pt.slots] at X319 l319 y319 z319 st319 hQ319
        subst l319 y319 z319
        obtain ⟨rfl, N319q, Kc319, Q319_0, Q319_1⟩ := hQ319
        have O319 := O316.keep Kc319 (allS g_b314 (allS g_en_316 (allS g_wr_316 all0)))
        have N319 := Fr.app N316 N319q
        refine own_go (B := T319.setTop (mkF m 78 #[.val (.long p1), .second, .val (.int p2), .val (.long p3), .second, .val (.long p4), .second, .val (.ref r_294), .val (.int (0 : Int32)), .val (.int (1 : Int32)), .val (.long cc), .second, .val (.ref b314), .unset, .unset, .unset, .unset, .unset] [])) (fun t k => st319.trans k) ?_
        refine own_go (B := T319.setTop (mkF m 79 #[.val (.long p1), .second, .val (.int p2), .val (.long p3), .second, .val (.long p4), .second, .val (.ref r_294), .val (.int (0 : Int32)), .val (.int (1 : Int32)), .val (.long cc), .second, .val (.ref b314), .unset, .unset, .unset, .unset, .unset] [(.int (0 : Int32))])) (fun t k => XS.iconst X319.here hx rfl (hb hby at_78) k) ?_
        refine own_go (B := T319.setTop (mkF m 81 #[.val (.long p1), .second, .val (.int p2), .val (.long p3), .second, .val (.long p4), .second, .val (.ref r_294), .val (.int (0 : Int32)), .val (.int (1 : Int32)), .val (.long cc), .second, .val (.ref b314), .val (.int (0 : Int32)), .unset, .unset, .unset, .unset] [])) (fun t k => XS.istore X319.here hx rfl (hb hby at_79) rfl (l' := #[.val (.long p1), .second, .val (.int p2), .val (.long p3), .second, .val (.long p4), .second, .val (.ref r_294), .val (.int (0 : Int32)), .val (.int (1 : Int32)), .val (.long cc), .second, .val (.ref b314), .val (.int (0 : Int32)), .unset, .unset, .unset, .unset]) rfl k) ?_
        refine own_go (B := T319.setTop (mkF m 83 #[.val (.long p1), .second, .val (.int p2), .val (.long p3), .second, .val (.long p4), .second, .val (.ref r_294), .val (.int (0 : Int32)), .val (.int (1 : Int32)), .val (.long cc), .second, .val (.ref b314), .val (.int (0 : Int32)), .unset, .unset, .unset, .unset] [(.int (1 : Int32))])) (fun t k => XS.iload X319.here hx rfl (hb hby at_81) rfl k) ?_
        refine own_go (B := T319.setTop (mkF m 86 #[.val (.long p1), .second, .val (.int p2), .val (.long p3), .second, .val (.long p4), .second, .val (.ref r_294), .val (.int (0 : Int32)), .val (.int (1 : Int32)), .val (.long cc), .second, .val (.ref b314), .val (.int (0 : Int32)), .unset, .unset, .unset, .unset] [])) (fun t k => XS.ifNo X319.here hx rfl (hb hby at_83) rfl ((if0 _ _).trans (feq (by decide : ¬ ((1 : Int32) = (0 : Int32)))).1) k) ?_
        refine own_go (B := T319.setTop (mkF m 88 #[.val (.long p1), .second, .val (.int p2), .val (.long p3), .second, .val (.long p4), .second, .val (.ref r_294), .val (.int (0 : Int32)), .val (.int (1 : Int32)), .val (.long cc), .second, .val (.ref b314), .val (.int (0 : Int32)), .unset, .unset, .unset, .unset] [(.long p4)])) (fun t k => XS.lload X319.here hx rfl (hb hby at_86) rfl k) ?_
        refine own_go (B := T319.setTop (mkF m 90 #[.val (.long p1), .second, .val (.int p2), .val (.long p3), .second, .val (.long p4), .second, .val (.ref r_294), .val (.int (0 : Int32)), .val (.int (1 : Int32)), .val (.long cc), .second, .val (.ref b314), .val (.int (0 : Int32)), .unset, .unset, .unset, .unset] [(.long cc), (.long p4)])) (fun t k => XS.lload X319.here hx rfl (hb hby at_88) rfl k) ?_
        refine own_go (B := T319.setTop (mkF m 91 #[.val (.long p1), .second, .val (.int p2), .val (.long p3), .second, .val (.long p4), .second, .val (.ref r_294), .val (.int (0 : Int32)), .val (.int (1 : Int32)), .val (.long cc), .second, .val (.ref b314), .val (.int (0 : Int32)), .unset, .unset, .unset, .unset] [(.int (lcmpW p4 cc))])) (fun t k => XS.lcmp X319.here hx rfl (hb hby at_90) rfl k) ?_
        by_cases hc91_321 : p4 < cc
        · refine own_go (B := T319.setTop (mkF m 97 #[.val (.long p1), .second, .val (.int p2), .val (.long p3), .second, .val (.long p4), .second, .val (.ref r_294), .val (.int (0 : Int32)), .val (.int (1 : Int32)), .val (.long cc), .second, .val (.ref b314), .val (.int (0 : Int32)), .unset, .unset, .unset, .unset] [])) (fun t k => XS.ifYes X319.here hx rfl (pc0 := 91) (pc' := 97) rfl (hb hby at_91) rfl ((if0 _ _).trans (tlt ((lw_lt p4 cc).mpr hc91_321)).1) (by decide) (by decide) k) ?_
          refine own_go (B := T319.setTop (mkF m 99 #[.val (.long p1), .second, .val (.int p2), .val (.long p3), .second, .val (.long p4), .second, .val (.ref r_294), .val (.int (0 : Int32)), .val (.int (1 : Int32)), .val (.long cc), .second, .val (.ref b314), .val (.int (0 : Int32)), .unset, .unset, .unset, .unset] [(.ref b314)])) (fun t k => XS.aload X319.here hx rfl (hb hby at_97) rfl rfl k) ?_
          refine own_go (B := T319.setTop (mkF m 101 #[.val (.long p1), .second, .val (.int p2), .val (.long p3), .second, .val (.long p4), .second, .val (.ref r_294), .val (.int (0 : Int32)), .val (.int (1 : Int32)), .val (.long cc), .second, .val (.ref b314), .val (.int (0 : Int32)), .unset, .unset, .unset, .unset] [(.long p4), (.ref b314)])) (fun t k => XS.lload X319.here hx rfl (hb hby at_99) rfl k) ?_
          obtain ⟨cq322, kq322, q322a, q322b, q322c⟩ := isOf hZ (rfl : T319.heap = T319.heap) Q319_0
          obtain ⟨_, _, ⟨T322, L322, k322, n322⟩, -, X322, ⟨Lc322, hQ322, l322, y322, z322⟩, st322⟩ := X319.virtualBack hx (y := (⟨"com/example/interleave/interleave/engine/Transaction", "committedBy", "(J)Z"⟩ : MethodName)) (z := (⟨"com/example/interleave/interleave/engine/Transaction", "committedBy", "(J)Z"⟩ : MethodName)) hown (mvT hZ (hw _ (List.mem_of_getElem? (i := 115) rfl))) (mvT hZ (hw _ (List.mem_of_getElem? (i := 116) rfl))) (notFace_of_selects (args := #[]) (mvT hZ (hw _ (List.mem_of_getElem? (i := 118) rfl)))) (mvT hZ (hw _ (List.mem_of_getElem? (i := 118) rfl))) (mvT hZ (hw _ (List.mem_of_getElem? (i := 117) rfl))) (by decide) (backOf (W := 0) (own_rm_cby l Z a0 hw [] b314 p4 cc (0 : Int32) T319.heap n0 O319 Q319_1 (by simp [hz1, hc91_321])) hZ (hw _ (List.mem_of_getElem? (i := 119) rfl)) (hw _ (List.mem_of_getElem? (i := 10) rfl)) (by decide) (by decide)) q322a q322c (g := (mkF m 101 #[.val (.long p1), .second, .val (.int p2), .val (.long p3), .second, .val (.long p4), .second, .val (.ref r_294), .val (.int (0 : Int32)), .val (.int (1 : Int32)), .val (.long cc), .second, .val (.ref b314), .val (.int (0 : Int32)), .unset, .unset, .unset, .unset] [(.long p4), (.ref b314)])) rfl (by rw [hml]; rfl) (Steps.refl _) (argsL := [(.long p4)]) (rest := []) (lenOf own_pd_5 rfl) rfl (by show 2 * 0 + _ ≤ _; exact Nat.le_of_eq rfl) (hb hby at_101) (fun _ _ => ⟨rfl, (rfl : T319.heap = T319.heap), (by decide : 6 + 0 ≤ _), (by decide : 29 + 0 ≤ _)⟩)
          dsimp only [Pt.U, Pt.locs, Pt.cells, Pt.slots] at X322 l322 y322 z322 st322 hQ322
          subst l322 y322 z322
          obtain ⟨rfl, N322q, eh322⟩ := hQ322
          have N322 := Fr.app N319 N322q
          refine own_go (B := T322.setTop (mkF m 104 #[.val (.long p1), .second, .val (.int p2), .val (.long p3), .second, .val (.long p4), .second, .val (.ref r_294), .val (.int (0 : Int32)), .val (.int (1 : Int32)), .val (.long cc), .second, .val (.ref b314), .val (.int (0 : Int32)), .unset, .unset, .unset, .unset] [(.int (0 : Int32))])) (fun t k => st322.trans k) ?_
          refine own_go (B := T322.setTop (mkF m 106 #[.val (.long p1), .second, .val (.int p2), .val (.long p3), .second, .val (.long p4), .second, .val (.ref r_294), .val (.int (0 : Int32)), .val (.int (1 : Int32)), .val (.long cc), .second, .val (.ref b314), .val (.int (0 : Int32)), .val (.int (0 : Int32)), .unset, .unset, .unset] [])) (fun t k => XS.istore X322.here hx rfl (hb hby at_104) rfl (l' := #[.val (.long p1), .second, .val (.int p2), .val (.long p3), .second, .val (.long p4), .second, .val (.ref r_294), .val (.int (0 : Int32)), .val (.int (1 : Int32)), .val (.long cc), .second, .val (.ref b314), .val (.int (0 : Int32)), .val (.int (0 : Int32)), .unset, .unset, .unset]) rfl k) ?_
          refine own_go (B := T322.setTop (mkF m 108 #[.val (.long p1), .second, .val (.int p2), .val (.long p3), .second, .val (.long p4), .second, .val (.ref r_294), .val (.int (0 : Int32)), .val (.int (1 : Int32)), .val (.long cc), .second, .val (.ref b314), .val (.int (0 : Int32)), .val (.int (0 : Int32)), .unset, .unset, .unset] [(.ref b314)])) (fun t k => XS.aload X322.here hx rfl (hb hby at_106) rfl rfl k) ?_
          refine own_go (B := T322.setTop (mkF m 110 #[.val (.long p1), .second, .val (.int p2), .val (.long p3), .second, .val (.long p4), .second, .val (.ref r_294), .val (.int (0 : Int32)), .val (.int (1 : Int32)), .val (.long cc), .second, .val (.ref b314), .val (.int (0 : Int32)), .val (.int (0 : Int32)), .unset, .unset, .unset] [(.long cc), (.ref b314)])) (fun t k => XS.lload X322.here hx rfl (hb hby at_108) rfl k) ?_
          obtain ⟨cq323, kq323, q323a, q323b, q323c⟩ := isOf hZ eh322 Q319_0
          obtain ⟨_, _, ⟨T323, L323, k323, n323⟩, -, X323, ⟨Lc323, hQ323, l323, y323, z323⟩, st323⟩ := X322.virtualBack hx (y := (⟨"com/example/interleave/interleave/engine/Transaction", "committedBy", "(J)Z"⟩ : MethodName)) (z := (⟨"com/example/interleave/interleave/engine/Transaction", "committedBy", "(J)Z"⟩ : MethodName)) hown (mvT hZ (hw _ (List.mem_of_getElem? (i := 115) rfl))) (mvT hZ (hw _ (List.mem_of_getElem? (i := 116) rfl))) (notFace_of_selects (args := #[]) (mvT hZ (hw _ (List.mem_of_getElem? (i := 118) rfl)))) (mvT hZ (hw _ (List.mem_of_getElem? (i := 118) rfl))) (mvT hZ (hw _ (List.mem_of_getElem? (i := 117) rfl))) (by decide) (backOf (W := 0) (own_rm_cby l Z a0 hw [] b314 cc cc (1 : Int32) T319.heap n0 O319 Q319_1 (by simp [hz1, (own_irr cc)])) hZ (hw _ (List.mem_of_getElem? (i := 119) rfl)) (hw _ (List.mem_of_getElem? (i := 10) rfl)) (by decide) (by decide)) q323a q323c (g := (mkF m 110 #[.val (.long p1), .second, .val (.int p2), .val (.long p3), .second, .val (.long p4), .second, .val (.ref r_294), .val (.int (0 : Int32)), .val (.int (1 : Int32)), .val (.long cc), .second, .val (.ref b314), .val (.int (0 : Int32)), .val (.int (0 : Int32)), .unset, .unset, .unset] [(.long cc), (.ref b314)])) rfl (by rw [hml]; rfl) (Steps.refl _) (argsL := [(.long cc)]) (rest := []) (lenOf own_pd_5 rfl) rfl (by show 2 * 0 + _ ≤ _; exact Nat.le_of_eq rfl) (hb hby at_110) (fun _ _ => ⟨rfl, eh322, (by decide : 6 + 0 ≤ _), (by decide : 29 + 0 ≤ _)⟩)
          dsimp only [Pt.U, Pt.locs, Pt.cells, Pt.slots] at X323 l323 y323 z323 st323 hQ323
          subst l323 y323 z323
          obtain ⟨rfl, N323q, eh323⟩ := hQ323
          have N323 := Fr.app N322 N323q
          refine own_go (B := T323.setTop (mkF m 113 #[.val (.long p1), .second, .val (.int p2), .val (.long p3), .second, .val (.long p4), .second, .val (.ref r_294), .val (.int (0 : Int32)), .val (.int (1 : Int32)), .val (.long cc), .second, .val (.ref b314), .val (.int (0 : Int32)), .val (.int (0 : Int32)), .unset, .unset, .unset] [(.int (1 : Int32))])) (fun t k => st323.trans k) ?_
          refine own_go (B := T323.setTop (mkF m 115 #[.val (.long p1), .second, .val (.int p2), .val (.long p3), .second, .val (.long p4), .second, .val (.ref r_294), .val (.int (0 : Int32)), .val (.int (1 : Int32)), .val (.long cc), .second, .val (.ref b314), .val (.int (0 : Int32)), .val (.int (0 : Int32)), .val (.int (1 : Int32)), .unset, .unset] [])) (fun t k => XS.istore X323.here hx rfl (hb hby at_113) rfl (l' := #[.val (.long p1), .second, .val (.int p2), .val (.long p3), .second, .val (.long p4), .second, .val (.ref r_294), .val (.int (0 : Int32)), .val (.int (1 : Int32)), .val (.long cc), .second, .val (.ref b314), .val (.int (0 : Int32)), .val (.int (0 : Int32)), .val (.int (1 : Int32)), .unset, .unset]) rfl k) ?_
          refine own_go (B := T323.setTop (mkF m 117 #[.val (.long p1), .second, .val (.int p2), .val (.long p3), .second, .val (.long p4), .second, .val (.ref r_294), .val (.int (0 : Int32)), .val (.int (1 : Int32)), .val (.long cc), .second, .val (.ref b314), .val (.int (0 : Int32)), .val (.int (0 : Int32)), .val (.int (1 : Int32)), .unset, .unset] [(.ref b314)])) (fun t k => XS.aload X323.here hx rfl (hb hby at_115) rfl rfl k) ?_
          refine own_go (B := T323.setTop (mkF m 119 #[.val (.long p1), .second, .val (.int p2), .val (.long p3), .second, .val (.long p4), .second, .val (.ref r_294), .val (.int (0 : Int32)), .val (.int (1 : Int32)), .val (.long cc), .second, .val (.ref b314), .val (.int (0 : Int32)), .val (.int (0 : Int32)), .val (.int (1 : Int32)), .unset, .unset] [(.long cc), (.ref b314)])) (fun t k => XS.lload X323.here hx rfl (hb hby at_117) rfl k) ?_
          refine own_go (B := T323.setTop (mkF m 120 #[.val (.long p1), .second, .val (.int p2), .val (.long p3), .second, .val (.long p4), .second, .val (.ref r_294), .val (.int (0 : Int32)), .val (.int (1 : Int32)), .val (.long cc), .second, .val (.ref b314), .val (.int (0 : Int32)), .val (.int (0 : Int32)), .val (.int (1 : Int32)), .unset, .unset] [(.long (1 : Int64)), (.long cc), (.ref b314)])) (fun t k => XS.lconst X323.here hx rfl (hb hby at_119) k) ?_
          refine own_go (B := T323.setTop (mkF m 121 #[.val (.long p1), .second, .val (.int p2), .val (.long p3), .second, .val (.long p4), .second, .val (.ref r_294), .val (.int (0 : Int32)), .val (.int (1 : Int32)), .val (.long cc), .second, .val (.ref b314), .val (.int (0 : Int32)), .val (.int (0 : Int32)), .val (.int (1 : Int32)), .unset, .unset] [(.long (cc - (1 : Int64))), (.ref b314)])) (fun t k => XS.lsub X323.here hx rfl (hb hby at_120) rfl k) ?_
          obtain ⟨cq324, kq324, q324a, q324b, q324c⟩ := isOf hZ eh323 Q319_0
          obtain ⟨_, _, ⟨T324, L324, k324, n324⟩, -, X324, ⟨Lc324, hQ324, l324, y324, z324⟩, st324⟩ := X323.virtualBack hx (y := (⟨"com/example/interleave/interleave/engine/Transaction", "committedBy", "(J)Z"⟩ : MethodName)) (z := (⟨"com/example/interleave/interleave/engine/Transaction", "committedBy", "(J)Z"⟩ : MethodName)) hown (mvT hZ (hw _ (List.mem_of_getElem? (i := 115) rfl))) (mvT hZ (hw _ (List.mem_of_getElem? (i := 116) rfl))) (notFace_of_selects (args := #[]) (mvT hZ (hw _ (List.mem_of_getElem? (i := 118) rfl)))) (mvT hZ (hw _ (List.mem_of_getElem? (i := 118) rfl))) (mvT hZ (hw _ (List.mem_of_getElem? (i := 117) rfl))) (by decide) (backOf (W := 0) (own_rm_cby l Z a0 hw [] b314 (cc - (1 : Int64)) cc (0 : Int32) T319.heap n0 O319 Q319_1 (by simp [hz1, hz2])) hZ (hw _ (List.mem_of_getElem? (i := 119) rfl)) (hw _ (List.mem_of_getElem? (i := 10) rfl)) (by decide) (by decide)) q324a q324c (g := (mkF m 121 #[.val (.long p1), .second, .val (.int p2), .val (.long p3), .second, .val (.long p4), .second, .val (.ref r_294), .val (.int (0 : Int32)), .val (.int (1 : Int32)), .val (.long cc), .second, .val (.ref b314), .val (.int (0 : Int32)), .val (.int (0 : Int32)), .val (.int (1 : Int32)), .unset, .unset] [(.long (cc - (1 : Int64))), (.ref b314)])) rfl (by rw [hml]; rfl) (Steps.refl _) (argsL := [(.long (cc - (1 : Int64)))]) (rest := []) (lenOf own_pd_5 rfl) rfl (by show 2 * 0 + _ ≤ _; exact Nat.le_of_eq rfl) (hb hby at_121) (fun _ _ => ⟨rfl, eh323, (by decide : 6 + 0 ≤ _), (by decide : 29 + 0 ≤ _)⟩)
          dsimp only [Pt.U, Pt.locs, Pt.cells, Pt.slots] at X324 l324 y324 z324 st324 hQ324
          subst l324 y324 z324
          obtain ⟨rfl, N324q, eh324⟩ := hQ324
          have N324 := Fr.app N323 N324q
          refine own_go (B := T324.setTop (mkF m 124 #[.val (.long p1), .second, .val (.int p2), .val (.long p3), .second, .val (.long p4), .second, .val (.ref r_294), .val (.int (0 : Int32)), .val (.int (1 : Int32)), .val (.long cc), .second, .val (.ref b314), .val (.int (0 : Int32)), .val (.int (0 : Int32)), .val (.int (1 : Int32)), .unset, .unset] [(.int (0 : Int32))])) (fun t k => st324.trans k) ?_
          refine own_go (B := T324.setTop (mkF m 126 #[.val (.long p1), .second, .val (.int p2), .val (.long p3), .second, .val (.long p4), .second, .val (.ref r_294), .val (.int (0 : Int32)), .val (.int (1 : Int32)), .val (.long cc), .second, .val (.ref b314), .val (.int (0 : Int32)), .val (.int (0 : Int32)), .val (.int (1 : Int32)), .val (.int (0 : Int32)), .unset] [])) (fun t k => XS.istore X324.here hx rfl (hb hby at_124) rfl (l' := #[.val (.long p1), .second, .val (.int p2), .val (.long p3), .second, .val (.long p4), .second, .val (.ref r_294), .val (.int (0 : Int32)), .val (.int (1 : Int32)), .val (.long cc), .second, .val (.ref b314), .val (.int (0 : Int32)), .val (.int (0 : Int32)), .val (.int (1 : Int32)), .val (.int (0 : Int32)), .unset]) rfl k) ?_
          refine own_go (B := T324.setTop (mkF m 128 #[.val (.long p1), .second, .val (.int p2), .val (.long p3), .second, .val (.long p4), .second, .val (.ref r_294), .val (.int (0 : Int32)), .val (.int (1 : Int32)), .val (.long cc), .second, .val (.ref b314), .val (.int (0 : Int32)), .val (.int (0 : Int32)), .val (.int (1 : Int32)), .val (.int (0 : Int32)), .unset] [(.ref b314)])) (fun t k => XS.aload X324.here hx rfl (hb hby at_126) rfl rfl k) ?_
          refine own_go (B := T324.setTop (mkF m 131 #[.val (.long p1), .second, .val (.int p2), .val (.long p3), .second, .val (.long p4), .second, .val (.ref r_294), .val (.int (0 : Int32)), .val (.int (1 : Int32)), .val (.long cc), .second, .val (.ref b314), .val (.int (0 : Int32)), .val (.int (0 : Int32)), .val (.int (1 : Int32)), .val (.int (0 : Int32)), .unset] [(.long (9223372036854775807 : Int64)), (.ref b314)])) (fun t k => X324.ldc2Long hx hown (mvT hZ (hw _ (List.mem_of_getElem? (i := 7) rfl))) (g := (mkF m 128 #[.val (.long p1), .second, .val (.int p2), .val (.long p3), .second, .val (.long p4), .second, .val (.ref r_294), .val (.int (0 : Int32)), .val (.int (1 : Int32)), .val (.long cc), .second, .val (.ref b314), .val (.int (0 : Int32)), .val (.int (0 : Int32)), .val (.int (1 : Int32)), .val (.int (0 : Int32)), .unset] [(.ref b314)])) rfl (hb hby at_128) _ k) ?_
          obtain ⟨cq325, kq325, q325a, q325b, q325c⟩ := isOf hZ eh324 Q319_0
          obtain ⟨_, _, ⟨T325, L325, k325, n325⟩, -, X325, ⟨Lc325, hQ325, l325, y325, z325⟩, st325⟩ := X324.virtualBack hx (y := (⟨"com/example/interleave/interleave/engine/Transaction", "committedBy", "(J)Z"⟩ : MethodName)) (z := (⟨"com/example/interleave/interleave/engine/Transaction", "committedBy", "(J)Z"⟩ : MethodName)) hown (mvT hZ (hw _ (List.mem_of_getElem? (i := 115) rfl))) (mvT hZ (hw _ (List.mem_of_getElem? (i := 116) rfl))) (notFace_of_selects (args := #[]) (mvT hZ (hw _ (List.mem_of_getElem? (i := 118) rfl)))) (mvT hZ (hw _ (List.mem_of_getElem? (i := 118) rfl))) (mvT hZ (hw _ (List.mem_of_getElem? (i := 117) rfl))) (by decide) (backOf (W := 0) (own_rm_cby l Z a0 hw [] b314 (9223372036854775807 : Int64) cc (1 : Int32) T319.heap n0 O319 Q319_1 (by simp [hz1, hz3])) hZ (hw _ (List.mem_of_getElem? (i := 119) rfl)) (hw _ (List.mem_of_getElem? (i := 10) rfl)) (by decide) (by decide)) q325a q325c (g := (mkF m 131 #[.val (.long p1), .second, .val (.int p2), .val (.long p3), .second, .val (.long p4), .second, .val (.ref r_294), .val (.int (0 : Int32)), .val (.int (1 : Int32)), .val (.long cc), .second, .val (.ref b314), .val (.int (0 : Int32)), .val (.int (0 : Int32)), .val (.int (1 : Int32)), .val (.int (0 : Int32)), .unset] [(.long (9223372036854775807 : Int64)), (.ref b314)])) rfl (by rw [hml]; rfl) (Steps.refl _) (argsL := [(.long (9223372036854775807 : Int64))]) (rest := []) (lenOf own_pd_5 rfl) rfl (by show 2 * 0 + _ ≤ _; exact Nat.le_of_eq rfl) (hb hby at_131) (fun _ _ => ⟨rfl, eh324, (by decide : 6 + 0 ≤ _), (by decide : 29 + 0 ≤ _)⟩)
          dsimp only [Pt.U, Pt.locs, Pt.cells, Pt.slots] at X325 l325 y325 z325 st325 hQ325
          subst l325 y325 z325
          obtain ⟨rfl, N325q, eh325⟩ := hQ325
          have N325 := Fr.app N324 N325q
          refine own_go (B := T325.setTop (mkF m 134 #[.val (.long p1), .second, .val (.int p2), .val (.long p3), .second, .val (.long p4), .second, .val (.ref r_294), .val (.int (0 : Int32)), .val (.int (1 : Int32)), .val (.long cc), .second, .val (.ref b314), .val (.int (0 : Int32)), .val (.int (0 : Int32)), .val (.int (1 : Int32)), .val (.int (0 : Int32)), .unset] [(.int (1 : Int32))])) (fun t k => st325.trans k) ?_
          refine own_go (B := T325.setTop (mkF m 136 #[.val (.long p1), .second, .val (.int p2), .val (.long p3), .second, .val (.long p4), .second, .val (.ref r_294), .val (.int (0 : Int32)), .val (.int (1 : Int32)), .val (.long cc), .second, .val (.ref b314), .val (.int (0 : Int32)), .val (.int (0 : Int32)), .val (.int (1 : Int32)), .val (.int (0 : Int32)), .val (.int (1 : Int32))] [])) (fun t k => XS.istore X325.here hx rfl (hb hby at_134) rfl (l' := #[.val (.long p1), .second, .val (.int p2), .val (.long p3), .second, .val (.long p4), .second, .val (.ref r_294), .val (.int (0 : Int32)), .val (.int (1 : Int32)), .val (.long cc), .second, .val (.ref b314), .val (.int (0 : Int32)), .val (.int (0 : Int32)), .val (.int (1 : Int32)), .val (.int (0 : Int32)), .val (.int (1 : Int32))]) rfl k) ?_
          refine own_go (B := T325.setTop (mkF m 138 #[.val (.long p1), .second, .val (.int p2), .val (.long p3), .second, .val (.long p4), .second, .val (.ref r_294), .val (.int (0 : Int32)), .val (.int (1 : Int32)), .val (.long cc), .second, .val (.ref b314), .val (.int (0 : Int32)), .val (.int (0 : Int32)), .val (.int (1 : Int32)), .val (.int (0 : Int32)), .val (.int (1 : Int32))] [(.int (0 : Int32))])) (fun t k => XS.iload X325.here hx rfl (hb hby at_136) rfl k) ?_
          refine own_go (B := T325.setTop (mkF m 140 #[.val (.long p1), .second, .val (.int p2), .val (.long p3), .second, .val (.long p4), .second, .val (.ref r_294), .val (.int (0 : Int32)), .val (.int (1 : Int32)), .val (.long cc), .second, .val (.ref b314), .val (.int (0 : Int32)), .val (.int (0 : Int32)), .val (.int (1 : Int32)), .val (.int (0 : Int32)), .val (.int (1 : Int32))] [(.int (0 : Int32)), (.int (0 : Int32))])) (fun t k => XS.iload X325.here hx rfl (hb hby at_138) rfl k) ?_
          refine own_go (B := T325.setTop (mkF m 143 #[.val (.long p1), .second, .val (.int p2), .val (.long p3), .second, .val (.long p4), .second, .val (.ref r_294), .val (.int (0 : Int32)), .val (.int (1 : Int32)), .val (.long cc), .second, .val (.ref b314), .val (.int (0 : Int32)), .val (.int (0 : Int32)), .val (.int (1 : Int32)), .val (.int (0 : Int32)), .val (.int (1 : Int32))] [])) (fun t k => XS.icmpNo X325.here hx rfl (hb hby at_140) rfl (teq (by decide : (0 : Int32) = (0 : Int32))).2 k) ?_
          refine own_go (B := T325.setTop (mkF m 145 #[.val (.long p1), .second, .val (.int p2), .val (.long p3), .second, .val (.long p4), .second, .val (.ref r_294), .val (.int (0 : Int32)), .val (.int (1 : Int32)), .val (.long cc), .second, .val (.ref b314), .val (.int (0 : Int32)), .val (.int (0 : Int32)), .val (.int (1 : Int32)), .val (.int (0 : Int32)), .val (.int (1 : Int32))] [(.int (1 : Int32))])) (fun t k => XS.iload X325.here hx rfl (hb hby at_143) rfl k) ?_
          refine own_go (B := T325.setTop (mkF m 147 #[.val (.long p1), .second, .val (.int p2), .val (.long p3), .second, .val (.long p4), .second, .val (.ref r_294), .val (.int (0 : Int32)), .val (.int (1 : Int32)), .val (.long cc), .second, .val (.ref b314), .val (.int (0 : Int32)), .val (.int (0 : Int32)), .val (.int (1 : Int32)), .val (.int (0 : Int32)), .val (.int (1 : Int32))] [(.int (1 : Int32)), (.int (1 : Int32))])) (fun t k => XS.iload X325.here hx rfl (hb hby at_145) rfl k) ?_
          refine own_go (B := T325.setTop (mkF m 150 #[.val (.long p1), .second, .val (.int p2), .val (.long p3), .second, .val (.long p4), .second, .val (.ref r_294), .val (.int (0 : Int32)), .val (.int (1 : Int32)), .val (.long cc), .second, .val (.ref b314), .val (.int (0 : Int32)), .val (.int (0 : Int32)), .val (.int (1 : Int32)), .val (.int (0 : Int32)), .val (.int (1 : Int32))] [])) (fun t k => XS.icmpNo X325.here hx rfl (hb hby at_147) rfl (teq (by decide : (1 : Int32) = (1 : Int32))).2 k) ?_
          refine own_go (B := T325.setTop (mkF m 152 #[.val (.long p1), .second, .val (.int p2), .val (.long p3), .second, .val (.long p4), .second, .val (.ref r_294), .val (.int (0 : Int32)), .val (.int (1 : Int32)), .val (.long cc), .second, .val (.ref b314), .val (.int (0 : Int32)), .val (.int (0 : Int32)), .val (.int (1 : Int32)), .val (.int (0 : Int32)), .val (.int (1 : Int32))] [(.int (0 : Int32))])) (fun t k => XS.iload X325.here hx rfl (hb hby at_150) rfl k) ?_
          refine own_go (B := T325.setTop (mkF m 155 #[.val (.long p1), .second, .val (.int p2), .val (.long p3), .second, .val (.long p4), .second, .val (.ref r_294), .val (.int (0 : Int32)), .val (.int (1 : Int32)), .val (.long cc), .second, .val (.ref b314), .val (.int (0 : Int32)), .val (.int (0 : Int32)), .val (.int (1 : Int32)), .val (.int (0 : Int32)), .val (.int (1 : Int32))] [])) (fun t k => XS.ifNo X325.here hx rfl (hb hby at_152) rfl ((if0 _ _).trans (teq (by decide : (0 : Int32) = (0 : Int32))).2) k) ?_
          refine own_go (B := T325.setTop (mkF m 157 #[.val (.long p1), .second, .val (.int p2), .val (.long p3), .second, .val (.long p4), .second, .val (.ref r_294), .val (.int (0 : Int32)), .val (.int (1 : Int32)), .val (.long cc), .second, .val (.ref b314), .val (.int (0 : Int32)), .val (.int (0 : Int32)), .val (.int (1 : Int32)), .val (.int (0 : Int32)), .val (.int (1 : Int32))] [(.int (1 : Int32))])) (fun t k => XS.iload X325.here hx rfl (hb hby at_155) rfl k) ?_
          refine own_go (B := T325.setTop (mkF m 159 #[.val (.long p1), .second, .val (.int p2), .val (.long p3), .second, .val (.long p4), .second, .val (.ref r_294), .val (.int (0 : Int32)), .val (.int (1 : Int32)), .val (.long cc), .second, .val (.ref b314), .val (.int (0 : Int32)), .val (.int (0 : Int32)), .val (.int (1 : Int32)), .val (.int (0 : Int32)), .val (.int (1 : Int32))] [(.int (1 : Int32)), (.int (1 : Int32))])) (fun t k => XS.iload X325.here hx rfl (hb hby at_157) rfl k) ?_
          refine own_go (B := T325.setTop (mkF m 162 #[.val (.long p1), .second, .val (.int p2), .val (.long p3), .second, .val (.long p4), .second, .val (.ref r_294), .val (.int (0 : Int32)), .val (.int (1 : Int32)), .val (.long cc), .second, .val (.ref b314), .val (.int (0 : Int32)), .val (.int (0 : Int32)), .val (.int (1 : Int32)), .val (.int (0 : Int32)), .val (.int (1 : Int32))] [])) (fun t k => XS.icmpNo X325.here hx rfl (hb hby at_159) rfl (teq (by decide : (1 : Int32) = (1 : Int32))).2 k) ?_
          refine own_go (B := T325.setTop (mkF m 163 #[.val (.long p1), .second, .val (.int p2), .val (.long p3), .second, .val (.long p4), .second, .val (.ref r_294), .val (.int (0 : Int32)), .val (.int (1 : Int32)), .val (.long cc), .second, .val (.ref b314), .val (.int (0 : Int32)), .val (.int (0 : Int32)), .val (.int (1 : Int32)), .val (.int (0 : Int32)), .val (.int (1 : Int32))] [(.int (1 : Int32))])) (fun t k => XS.iconst X325.here hx rfl (hb hby at_162) k) ?_
          refine own_go (B := T325.setTop (mkF m 167 #[.val (.long p1), .second, .val (.int p2), .val (.long p3), .second, .val (.long p4), .second, .val (.ref r_294), .val (.int (0 : Int32)), .val (.int (1 : Int32)), .val (.long cc), .second, .val (.ref b314), .val (.int (0 : Int32)), .val (.int (0 : Int32)), .val (.int (1 : Int32)), .val (.int (0 : Int32)), .val (.int (1 : Int32))] [(.int (1 : Int32))])) (fun t k => XS.goto X325.here hx rfl (pc0 := 163) (pc' := 167) rfl (hb hby at_163) (by decide) (by decide) k) ?_
          obtain ⟨fs, hr, hrun, hended, hW, hsame⟩ := X325.leave (v := some (.int (1 : Int32))) (fun h => by rw [Bd.returns] at h; cases h)
          refine ⟨_, _, retN X325 hx (t := .boolean) Bd.returns (by simp) (hb hby at_167) hr, hK _ _ ⟨hrun, hended, _, _, rfl, ?_, ⟨_, rfl⟩, hW, hsame.mono (by decide) (by decide)⟩⟩
          show own_Q_law Z p1 p2 p3 p4 w_REPEATABLE_READ w_READ_UNCOMMITTED w_READ_COMMITTED w_SERIALIZABLE w_DEF h0 n0 _ T325.heap _
          rw [eh325]
          exact ⟨rfl, N325⟩
        · refine own_go (B := T319.setTop (mkF m 94 #[.val (.long p1), .second, .val (.int p2), .val (.long p3), .second, .val (.long p4), .second, .val (.ref r_294), .val (.int (0 : Int32)), .val (.int (1 : Int32)), .val (.long cc), .second, .val (.ref b314), .val (.int (0 : Int32)), .unset, .unset, .unset, .unset] [])) (fun t k => XS.ifNo X319.here hx rfl (hb hby at_91) rfl ((if0 _ _).trans (flt (fun q => hc91_321 ((lw_lt p4 cc).mp q))).1) k) ?_
          refine own_go (B := T319.setTop (mkF m 95 #[.val (.long p1), .second, .val (.int p2), .val (.long p3), .second, .val (.long p4), .second, .val (.ref r_294), .val (.int (0 : Int32)), .val (.int (1 : Int32)), .val (.long cc), .second, .val (.ref b314), .val (.int (0 : Int32)), .unset, .unset, .unset, .unset] [(.int (1 : Int32))])) (fun t k => XS.iconst X319.here hx rfl (hb hby at_94) k) ?_
          refine own_go (B := T319.setTop (mkF m 97 #[.val (.long p1), .second, .val (.int p2), .val (.long p3), .second, .val (.long p4), .second, .val (.ref r_294), .val (.int (0 : Int32)), .val (.int (1 : Int32)), .val (.long cc), .second, .val (.ref b314), .val (.int (1 : Int32)), .unset, .unset, .unset, .unset] [])) (fun t k => XS.istore X319.here hx rfl (hb hby at_95) rfl (l' := #[.val (.long p1), .second, .val (.int p2), .val (.long p3), .second, .val (.long p4), .second, .val (.ref r_294), .val (.int (0 : Int32)), .val (.int (1 : Int32)), .val (.long cc), .second, .val (.ref b314), .val (.int (1 : Int32)), .unset, .unset, .unset, .unset]) rfl k) ?_
          refine own_go (B := T319.setTop (mkF m 99 #[.val (.long p1), .second, .val (.int p2), .val (.long p3), .second, .val (.long p4), .second, .val (.ref r_294), .val (.int (0 : Int32)), .val (.int (1 : Int32)), .val (.long cc), .second, .val (.ref b314), .val (.int (1 : Int32)), .unset, .unset, .unset, .unset] [(.ref b314)])) (fun t k => XS.aload X319.here hx rfl (hb hby at_97) rfl rfl k) ?_
          refine own_go (B := T319.setTop (mkF m 101 #[.val (.long p1), .second, .val (.int p2), .val (.long p3), .second, .val (.long p4), .second, .val (.ref r_294), .val (.int (0 : Int32)), .val (.int (1 : Int32)), .val (.long cc), .second, .val (.ref b314), .val (.int (1 : Int32)), .unset, .unset, .unset, .unset] [(.long p4), (.ref b314)])) (fun t k => XS.lload X319.here hx rfl (hb hby at_99) rfl k) ?_
          obtain ⟨cq331, kq331, q331a, q331b, q331c⟩ := isOf hZ (rfl : T319.heap = T319.heap) Q319_0
          obtain ⟨_, _, ⟨T331, L331, k331, n331⟩, -, X331, ⟨Lc331, hQ331, l331, y331, z331⟩, st331⟩ := X319.virtualBack hx (y := (⟨"com/example/interleave/interleave/engine/Transaction", "committedBy", "(J)Z"⟩ : MethodName)) (z := (⟨"com/example/interleave/interleave/engine/Transaction", "committedBy", "(J)Z"⟩ : MethodName)) hown (mvT hZ (hw _ (List.mem_of_getElem? (i := 115) rfl))) (mvT hZ (hw _ (List.mem_of_getElem? (i := 116) rfl))) (notFace_of_selects (args := #[]) (mvT hZ (hw _ (List.mem_of_getElem? (i := 118) rfl)))) (mvT hZ (hw _ (List.mem_of_getElem? (i := 118) rfl))) (mvT hZ (hw _ (List.mem_of_getElem? (i := 117) rfl))) (by decide) (backOf (W := 0) (own_rm_cby l Z a0 hw [] b314 p4 cc (1 : Int32) T319.heap n0 O319 Q319_1 (by simp [hz1, hc91_321])) hZ (hw _ (List.mem_of_getElem? (i := 119) rfl)) (hw _ (List.mem_of_getElem? (i := 10) rfl)) (by decide) (by decide)) q331a q331c (g := (mkF m 101 #[.val (.long p1), .second, .val (.int p2), .val (.long p3), .second, .val (.long p4), .second, .val (.ref r_294), .val (.int (0 : Int32)), .val (.int (1 : Int32)), .val (.long cc), .second, .val (.ref b314), .val (.int (1 : Int32)), .unset, .unset, .unset, .unset] [(.long p4), (.ref b314)])) rfl (by rw [hml]; rfl) (Steps.refl _) (argsL := [(.long p4)]) (rest := []) (lenOf own_pd_5 rfl) rfl (by show 2 * 0 + _ ≤ _; exact Nat.le_of_eq rfl) (hb hby at_101) (fun _ _ => ⟨rfl, (rfl : T319.heap = T319.heap), (by decide : 6 + 0 ≤ _), (by decide : 29 + 0 ≤ _)⟩)
          dsimp only [Pt.U, Pt.locs, Pt.cells, Pt.slots] at X331 l331 y331 z331 st331 hQ331
          subst l331 y331 z331
          obtain ⟨rfl, N331q, eh331⟩ := hQ331
          have N331 := Fr.app N319 N331q
          refine own_go (B := T331.setTop (mkF m 104 #[.val (.long p1), .second, .val (.int p2), .val (.long p3), .second, .val (.long p4), .second, .val (.ref r_294), .val (.int (0 : Int32)), .val (.int (1 : Int32)), .val (.long cc), .second, .val (.ref b314), .val (.int (1 : Int32)), .unset, .unset, .unset, .unset] [(.int (1 : Int32))])) (fun t k => st331.trans k) ?_
          refine own_go (B := T331.setTop (mkF m 106 #[.val (.long p1), .second, .val (.int p2), .val (.long p3), .second, .val (.long p4), .second, .val (.ref r_294), .val (.int (0 : Int32)), .val (.int (1 : Int32)), .val (.long cc), .second, .val (.ref b314), .val (.int (1 : Int32)), .val (.int (1 : Int32)), .unset, .unset, .unset] [])) (fun t k => XS.istore X331.here hx rfl (hb hby at_104) rfl (l' := #[.val (.long p1), .second, .val (.int p2), .val (.long p3), .second, .val (.long p4), .second, .val (.ref r_294), .val (.int (0 : Int32)), .val (.int (1 : Int32)), .val (.long cc), .second, .val (.ref b314), .val (.int (1 : Int32)), .val (.int (1 : Int32)), .unset, .unset, .unset]) rfl k) ?_
          refine own_go (B := T331.setTop (mkF m 108 #[.val (.long p1), .second, .val (.int p2), .val (.long p3), .second, .val (.long p4), .second, .val (.ref r_294), .val (.int (0 : Int32)), .val (.int (1 : Int32)), .val (.long cc), .second, .val (.ref b314), .val (.int (1 : Int32)), .val (.int (1 : Int32)), .unset, .unset, .unset] [(.ref b314)])) (fun t k => XS.aload X331.here hx rfl (hb hby at_106) rfl rfl k) ?_
          refine own_go (B := T331.setTop (mkF m 110 #[.val (.long p1), .second, .val (.int p2), .val (.long p3), .second, .val (.long p4), .second, .val (.ref r_294), .val (.int (0 : Int32)), .val (.int (1 : Int32)), .val (.long cc), .second, .val (.ref b314), .val (.int (1 : Int32)), .val (.int (1 : Int32)), .unset, .unset, .unset] [(.long cc), (.ref b314)])) (fun t k => XS.lload X331.here hx rfl (hb hby at_108) rfl k) ?_
          obtain ⟨cq332, kq332, q332a, q332b, q332c⟩ := isOf hZ eh331 Q319_0
          obtain ⟨_, _, ⟨T332, L332, k332, n332⟩, -, X332, ⟨Lc332, hQ332, l332, y332, z332⟩, st332⟩ := X331.virtualBack hx (y := (⟨"com/example/interleave/interleave/engine/Transaction", "committedBy", "(J)Z"⟩ : MethodName)) (z := (⟨"com/example/interleave/interleave/engine/Transaction", "committedBy", "(J)Z"⟩ : MethodName)) hown (mvT hZ (hw _ (List.mem_of_getElem? (i := 115) rfl))) (mvT hZ (hw _ (List.mem_of_getElem? (i := 116) rfl))) (notFace_of_selects (args := #[]) (mvT hZ (hw _ (List.mem_of_getElem? (i := 118) rfl)))) (mvT hZ (hw _ (List.mem_of_getElem? (i := 118) rfl))) (mvT hZ (hw _ (List.mem_of_getElem? (i := 117) rfl))) (by decide) (backOf (W := 0) (own_rm_cby l Z a0 hw [] b314 cc cc (1 : Int32) T319.heap n0 O319 Q319_1 (by simp [hz1, (own_irr cc)])) hZ (hw _ (List.mem_of_getElem? (i := 119) rfl)) (hw _ (List.mem_of_getElem? (i := 10) rfl)) (by decide) (by decide)) q332a q332c (g := (mkF m 110 #[.val (.long p1), .second, .val (.int p2), .val (.long p3), .second, .val (.long p4), .second, .val (.ref r_294), .val (.int (0 : Int32)), .val (.int (1 : Int32)), .val (.long cc), .second, .val (.ref b314), .val (.int (1 : Int32)), .val (.int (1 : Int32)), .unset, .unset, .unset] [(.long cc), (.ref b314)])) rfl (by rw [hml]; rfl) (Steps.refl _) (argsL := [(.long cc)]) (rest := []) (lenOf own_pd_5 rfl) rfl (by show 2 * 0 + _ ≤ _; exact Nat.le_of_eq rfl) (hb hby at_110) (fun _ _ => ⟨rfl, eh331, (by decide : 6 + 0 ≤ _), (by decide : 29 + 0 ≤ _)⟩)
          dsimp only [Pt.U, Pt.locs, Pt.cells, Pt.slots] at X332 l332 y332 z332 st332 hQ332
          subst l332 y332 z332
          obtain ⟨rfl, N332q, eh332⟩ := hQ332
          have N332 := Fr.app N331 N332q
          refine own_go (B := T332.setTop (mkF m 113 #[.val (.long p1), .second, .val (.int p2), .val (.long p3), .second, .val (.long p4), .second, .val (.ref r_294), .val (.int (0 : Int32)), .val (.int (1 : Int32)), .val (.long cc), .second, .val (.ref b314), .val (.int (1 : Int32)), .val (.int (1 : Int32)), .unset, .unset, .unset] [(.int (1 : Int32))])) (fun t k => st332.trans k) ?_
          refine own_go (B := T332.setTop (mkF m 115 #[.val (.long p1), .second, .val (.int p2), .val (.long p3), .second, .val (.long p4), .second, .val (.ref r_294), .val (.int (0 : Int32)), .val (.int (1 : Int32)), .val (.long cc), .second, .val (.ref b314), .val (.int (1 : Int32)), .val (.int (1 : Int32)), .val (.int (1 : Int32)), .unset, .unset] [])) (fun t k => XS.istore X332.here hx rfl (hb hby at_113) rfl (l' := #[.val (.long p1), .second, .val (.int p2), .val (.long p3), .second, .val (.long p4), .second, .val (.ref r_294), .val (.int (0 : Int32)), .val (.int (1 : Int32)), .val (.long cc), .second, .val (.ref b314), .val (.int (1 : Int32)), .val (.int (1 : Int32)), .val (.int (1 : Int32)), .unset, .unset]) rfl k) ?_
          refine own_go (B := T332.setTop (mkF m 117 #[.val (.long p1), .second, .val (.int p2), .val (.long p3), .second, .val (.long p4), .second, .val (.ref r_294), .val (.int (0 : Int32)), .val (.int (1 : Int32)), .val (.long cc), .second, .val (.ref b314), .val (.int (1 : Int32)), .val (.int (1 : Int32)), .val (.int (1 : Int32)), .unset, .unset] [(.ref b314)])) (fun t k => XS.aload X332.here hx rfl (hb hby at_115) rfl rfl k) ?_
          refine own_go (B := T332.setTop (mkF m 119 #[.val (.long p1), .second, .val (.int p2), .val (.long p3), .second, .val (.long p4), .second, .val (.ref r_294), .val (.int (0 : Int32)), .val (.int (1 : Int32)), .val (.long cc), .second, .val (.ref b314), .val (.int (1 : Int32)), .val (.int (1 : Int32)), .val (.int (1 : Int32)), .unset, .unset] [(.long cc), (.ref b314)])) (fun t k => XS.lload X332.here hx rfl (hb hby at_117) rfl k) ?_
          refine own_go (B := T332.setTop (mkF m 120 #[.val (.long p1), .second, .val (.int p2), .val (.long p3), .second, .val (.long p4), .second, .val (.ref r_294), .val (.int (0 : Int32)), .val (.int (1 : Int32)), .val (.long cc), .second, .val (.ref b314), .val (.int (1 : Int32)), .val (.int (1 : Int32)), .val (.int (1 : Int32)), .unset, .unset] [(.long (1 : Int64)), (.long cc), (.ref b314)])) (fun t k => XS.lconst X332.here hx rfl (hb hby at_119) k) ?_
          refine own_go (B := T332.setTop (mkF m 121 #[.val (.long p1), .second, .val (.int p2), .val (.long p3), .second, .val (.long p4), .second, .val (.ref r_294), .val (.int (0 : Int32)), .val (.int (1 : Int32)), .val (.long cc), .second, .val (.ref b314), .val (.int (1 : Int32)), .val (.int (1 : Int32)), .val (.int (1 : Int32)), .unset, .unset] [(.long (cc - (1 : Int64))), (.ref b314)])) (fun t k => XS.lsub X332.here hx rfl (hb hby at_120) rfl k) ?_
          obtain ⟨cq333, kq333, q333a, q333b, q333c⟩ := isOf hZ eh332 Q319_0
          obtain ⟨_, _, ⟨T333, L333, k333, n333⟩, -, X333, ⟨Lc333, hQ333, l333, y333, z333⟩, st333⟩ := X332.virtualBack hx (y := (⟨"com/example/interleave/interleave/engine/Transaction", "committedBy", "(J)Z"⟩ : MethodName)) (z := (⟨"com/example/interleave/interleave/engine/Transaction", "committedBy", "(J)Z"⟩ : MethodName)) hown (mvT hZ (hw _ (List.mem_of_getElem? (i := 115) rfl))) (mvT hZ (hw _ (List.mem_of_getElem? (i := 116) rfl))) (notFace_of_selects (args := #[]) (mvT hZ (hw _ (List.mem_of_getElem? (i := 118) rfl)))) (mvT hZ (hw _ (List.mem_of_getElem? (i := 118) rfl))) (mvT hZ (hw _ (List.mem_of_getElem? (i := 117) rfl))) (by decide) (backOf (W := 0) (own_rm_cby l Z a0 hw [] b314 (cc - (1 : Int64)) cc (0 : Int32) T319.heap n0 O319 Q319_1 (by simp [hz1, hz2])) hZ (hw _ (List.mem_of_getElem? (i := 119) rfl)) (hw _ (List.mem_of_getElem? (i := 10) rfl)) (by decide) (by decide)) q333a q333c (g := (mkF m 121 #[.val (.long p1), .second, .val (.int p2), .val (.long p3), .second, .val (.long p4), .second, .val (.ref r_294), .val (.int (0 : Int32)), .val (.int (1 : Int32)), .val (.long cc), .second, .val (.ref b314), .val (.int (1 : Int32)), .val (.int (1 : Int32)), .val (.int (1 : Int32)), .unset, .unset] [(.long (cc - (1 : Int64))), (.ref b314)])) rfl (by rw [hml]; rfl) (Steps.refl _) (argsL := [(.long (cc - (1 : Int64)))]) (rest := []) (lenOf own_pd_5 rfl) rfl (by show 2 * 0 + _ ≤ _; exact Nat.le_of_eq rfl) (hb hby at_121) (fun _ _ => ⟨rfl, eh332, (by decide : 6 + 0 ≤ _), (by decide : 29 + 0 ≤ _)⟩)
          dsimp only [Pt.U, Pt.locs, Pt.cells, Pt.slots] at X333 l333 y333 z333 st333 hQ333
          subst l333 y333 z333
          obtain ⟨rfl, N333q, eh333⟩ := hQ333
          have N333 := Fr.app N332 N333q
          refine own_go (B := T333.setTop (mkF m 124 #[.val (.long p1), .second, .val (.int p2), .val (.long p3), .second, .val (.long p4), .second, .val (.ref r_294), .val (.int (0 : Int32)), .val (.int (1 : Int32)), .val (.long cc), .second, .val (.ref b314), .val (.int (1 : Int32)), .val (.int (1 : Int32)), .val (.int (1 : Int32)), .unset, .unset] [(.int (0 : Int32))])) (fun t k => st333.trans k) ?_
          refine own_go (B := T333.setTop (mkF m 126 #[.val (.long p1), .second, .val (.int p2), .val (.long p3), .second, .val (.long p4), .second, .val (.ref r_294), .val (.int (0 : Int32)), .val (.int (1 : Int32)), .val (.long cc), .second, .val (.ref b314), .val (.int (1 : Int32)), .val (.int (1 : Int32)), .val (.int (1 : Int32)), .val (.int (0 : Int32)), .unset] [])) (fun t k => XS.istore X333.here hx rfl (hb hby at_124) rfl (l' := #[.val (.long p1), .second, .val (.int p2), .val (.long p3), .second, .val (.long p4), .second, .val (.ref r_294), .val (.int (0 : Int32)), .val (.int (1 : Int32)), .val (.long cc), .second, .val (.ref b314), .val (.int (1 : Int32)), .val (.int (1 : Int32)), .val (.int (1 : Int32)), .val (.int (0 : Int32)), .unset]) rfl k) ?_
          refine own_go (B := T333.setTop (mkF m 128 #[.val (.long p1), .second, .val (.int p2), .val (.long p3), .second, .val (.long p4), .second, .val (.ref r_294), .val (.int (0 : Int32)), .val (.int (1 : Int32)), .val (.long cc), .second, .val (.ref b314), .val (.int (1 : Int32)), .val (.int (1 : Int32)), .val (.int (1 : Int32)), .val (.int (0 : Int32)), .unset] [(.ref b314)])) (fun t k => XS.aload X333.here hx rfl (hb hby at_126) rfl rfl k) ?_
          refine own_go (B := T333.setTop (mkF m 131 #[.val (.long p1), .second, .val (.int p2), .val (.long p3), .second, .val (.long p4), .second, .val (.ref r_294), .val (.int (0 : Int32)), .val (.int (1 : Int32)), .val (.long cc), .second, .val (.ref b314), .val (.int (1 : Int32)), .val (.int (1 : Int32)), .val (.int (1 : Int32)), .val (.int (0 : Int32)), .unset] [(.long (9223372036854775807 : Int64)), (.ref b314)])) (fun t k => X333.ldc2Long hx hown (mvT hZ (hw _ (List.mem_of_getElem? (i := 7) rfl))) (g := (mkF m 128 #[.val (.long p1), .second, .val (.int p2), .val (.long p3), .second, .val (.long p4), .second, .val (.ref r_294), .val (.int (0 : Int32)), .val (.int (1 : Int32)), .val (.long cc), .second, .val (.ref b314), .val (.int (1 : Int32)), .val (.int (1 : Int32)), .val (.int (1 : Int32)), .val (.int (0 : Int32)), .unset] [(.ref b314)])) rfl (hb hby at_128) _ k) ?_
          obtain ⟨cq334, kq334, q334a, q334b, q334c⟩ := isOf hZ eh333 Q319_0
          obtain ⟨_, _, ⟨T334, L334, k334, n334⟩, -, X334, ⟨Lc334, hQ334, l334, y334, z334⟩, st334⟩ := X333.virtualBack hx (y := (⟨"com/example/interleave/interleave/engine/Transaction", "committedBy", "(J)Z"⟩ : MethodName)) (z := (⟨"com/example/interleave/interleave/engine/Transaction", "committedBy", "(J)Z"⟩ : MethodName)) hown (mvT hZ (hw _ (List.mem_of_getElem? (i := 115) rfl))) (mvT hZ (hw _ (List.mem_of_getElem? (i := 116) rfl))) (notFace_of_selects (args := #[]) (mvT hZ (hw _ (List.mem_of_getElem? (i := 118) rfl)))) (mvT hZ (hw _ (List.mem_of_getElem? (i := 118) rfl))) (mvT hZ (hw _ (List.mem_of_getElem? (i := 117) rfl))) (by decide) (backOf (W := 0) (own_rm_cby l Z a0 hw [] b314 (9223372036854775807 : Int64) cc (1 : Int32) T319.heap n0 O319 Q319_1 (by simp [hz1, hz3])) hZ (hw _ (List.mem_of_getElem? (i := 119) rfl)) (hw _ (List.mem_of_getElem? (i := 10) rfl)) (by decide) (by decide)) q334a q334c (g := (mkF m 131 #[.val (.long p1), .second, .val (.int p2), .val (.long p3), .second, .val (.long p4), .second, .val (.ref r_294), .val (.int (0 : Int32)), .val (.int (1 : Int32)), .val (.long cc), .second, .val (.ref b314), .val (.int (1 : Int32)), .val (.int (1 : Int32)), .val (.int (1 : Int32)), .val (.int (0 : Int32)), .unset] [(.long (9223372036854775807 : Int64)), (.ref b314)])) rfl (by rw [hml]; rfl) (Steps.refl _) (argsL := [(.long (9223372036854775807 : Int64))]) (rest := []) (lenOf own_pd_5 rfl) rfl (by show 2 * 0 + _ ≤ _; exact Nat.le_of_eq rfl) (hb hby at_131) (fun _ _ => ⟨rfl, eh333, (by decide : 6 + 0 ≤ _), (by decide : 29 + 0 ≤ _)⟩)
          dsimp only [Pt.U, Pt.locs, Pt.cells, Pt.slots] at X334 l334 y334 z334 st334 hQ334
          subst l334 y334 z334
          obtain ⟨rfl, N334q, eh334⟩ := hQ334
          have N334 := Fr.app N333 N334q
          refine own_go (B := T334.setTop (mkF m 134 #[.val (.long p1), .second, .val (.int p2), .val (.long p3), .second, .val (.long p4), .second, .val (.ref r_294), .val (.int (0 : Int32)), .val (.int (1 : Int32)), .val (.long cc), .second, .val (.ref b314), .val (.int (1 : Int32)), .val (.int (1 : Int32)), .val (.int (1 : Int32)), .val (.int (0 : Int32)), .unset] [(.int (1 : Int32))])) (fun t k => st334.trans k) ?_
          refine own_go (B := T334.setTop (mkF m 136 #[.val (.long p1), .second, .val (.int p2), .val (.long p3), .second, .val (.long p4), .second, .val (.ref r_294), .val (.int (0 : Int32)), .val (.int (1 : Int32)), .val (.long cc), .second, .val (.ref b314), .val (.int (1 : Int32)), .val (.int (1 : Int32)), .val (.int (1 : Int32)), .val (.int (0 : Int32)), .val (.int (1 : Int32))] [])) (fun t k => XS.istore X334.here hx rfl (hb hby at_134) rfl (l' := #[.val (.long p1), .second, .val (.int p2), .val (.long p3), .second, .val (.long p4), .second, .val (.ref r_294), .val (.int (0 : Int32)), .val (.int (1 : Int32)), .val (.long cc), .second, .val (.ref b314), .val (.int (1 : Int32)), .val (.int (1 : Int32)), .val (.int (1 : Int32)), .val (.int (0 : Int32)), .val (.int (1 : Int32))]) rfl k) ?_
          refine own_go (B := T334.setTop (mkF m 138 #[.val (.long p1), .second, .val (.int p2), .val (.long p3), .second, .val (.long p4), .second, .val (.ref r_294), .val (.int (0 : Int32)), .val (.int (1 : Int32)), .val (.long cc), .second, .val (.ref b314), .val (.int (1 : Int32)), .val (.int (1 : Int32)), .val (.int (1 : Int32)), .val (.int (0 : Int32)), .val (.int (1 : Int32))] [(.int (1 : Int32))])) (fun t k => XS.iload X334.here hx rfl (hb hby at_136) rfl k) ?_
          refine own_go (B := T334.setTop (mkF m 140 #[.val (.long p1), .second, .val (.int p2), .val (.long p3), .second, .val (.long p4), .second, .val (.ref r_294), .val (.int (0 : Int32)), .val (.int (1 : Int32)), .val (.long cc), .second, .val (.ref b314), .val (.int (1 : Int32)), .val (.int (1 : Int32)), .val (.int (1 : Int32)), .val (.int (0 : Int32)), .val (.int (1 : Int32))] [(.int (1 : Int32)), (.int (1 : Int32))])) (fun t k => XS.iload X334.here hx rfl (hb hby at_138) rfl k) ?_
          refine own_go (B := T334.setTop (mkF m 143 #[.val (.long p1), .second, .val (.int p2), .val (.long p3), .second, .val (.long p4), .second, .val (.ref r_294), .val (.int (0 : Int32)), .val (.int (1 : Int32)), .val (.long cc), .second, .val (.ref b314), .val (.int (1 : Int32)), .val (.int (1 : Int32)), .val (.int (1 : Int32)), .val (.int (0 : Int32)), .val (.int (1 : Int32))] [])) (fun t k => XS.icmpNo X334.here hx rfl (hb hby at_140) rfl (teq (by decide : (1 : Int32) = (1 : Int32))).2 k) ?_
          refine own_go (B := T334.setTop (mkF m 145 #[.val (.long p1), .second, .val (.int p2), .val (.long p3), .second, .val (.long p4), .second, .val (.ref r_294), .val (.int (0 : Int32)), .val (.int (1 : Int32)), .val (.long cc), .second, .val (.ref b314), .val (.int (1 : Int32)), .val (.int (1 : Int32)), .val (.int (1 : Int32)), .val (.int (0 : Int32)), .val (.int (1 : Int32))] [(.int (1 : Int32))])) (fun t k => XS.iload X334.here hx rfl (hb hby at_143) rfl k) ?_
          refine own_go (B := T334.setTop (mkF m 147 #[.val (.long p1), .second, .val (.int p2), .val (.long p3), .second, .val (.long p4), .second, .val (.ref r_294), .val (.int (0 : Int32)), .val (.int (1 : Int32)), .val (.long cc), .second, .val (.ref b314), .val (.int (1 : Int32)), .val (.int (1 : Int32)), .val (.int (1 : Int32)), .val (.int (0 : Int32)), .val (.int (1 : Int32))] [(.int (1 : Int32)), (.int (1 : Int32))])) (fun t k => XS.iload X334.here hx rfl (hb hby at_145) rfl k) ?_
          refine own_go (B := T334.setTop (mkF m 150 #[.val (.long p1), .second, .val (.int p2), .val (.long p3), .second, .val (.long p4), .second, .val (.ref r_294), .val (.int (0 : Int32)), .val (.int (1 : Int32)), .val (.long cc), .second, .val (.ref b314), .val (.int (1 : Int32)), .val (.int (1 : Int32)), .val (.int (1 : Int32)), .val (.int (0 : Int32)), .val (.int (1 : Int32))] [])) (fun t k => XS.icmpNo X334.here hx rfl (hb hby at_147) rfl (teq (by decide : (1 : Int32) = (1 : Int32))).2 k) ?_
          refine own_go (B := T334.setTop (mkF m 152 #[.val (.long p1), .second, .val (.int p2), .val (.long p3), .second, .val (.long p4), .second, .val (.ref r_294), .val (.int (0 : Int32)), .val (.int (1 : Int32)), .val (.long cc), .second, .val (.ref b314), .val (.int (1 : Int32)), .val (.int (1 : Int32)), .val (.int (1 : Int32)), .val (.int (0 : Int32)), .val (.int (1 : Int32))] [(.int (0 : Int32))])) (fun t k => XS.iload X334.here hx rfl (hb hby at_150) rfl k) ?_
          refine own_go (B := T334.setTop (mkF m 155 #[.val (.long p1), .second, .val (.int p2), .val (.long p3), .second, .val (.long p4), .second, .val (.ref r_294), .val (.int (0 : Int32)), .val (.int (1 : Int32)), .val (.long cc), .second, .val (.ref b314), .val (.int (1 : Int32)), .val (.int (1 : Int32)), .val (.int (1 : Int32)), .val (.int (0 : Int32)), .val (.int (1 : Int32))] [])) (fun t k => XS.ifNo X334.here hx rfl (hb hby at_152) rfl ((if0 _ _).trans (teq (by decide : (0 : Int32) = (0 : Int32))).2) k) ?_
          refine own_go (B := T334.setTop (mkF m 157 #[.val (.long p1), .second, .val (.int p2), .val (.long p3), .second, .val (.long p4), .second, .val (.ref r_294), .val (.int (0 : Int32)), .val (.int (1 : Int32)), .val (.long cc), .second, .val (.ref b314), .val (.int (1 : Int32)), .val (.int (1 : Int32)), .val (.int (1 : Int32)), .val (.int (0 : Int32)), .val (.int (1 : Int32))] [(.int (1 : Int32))])) (fun t k => XS.iload X334.here hx rfl (hb hby at_155) rfl k) ?_
          refine own_go (B := T334.setTop (mkF m 159 #[.val (.long p1), .second, .val (.int p2), .val (.long p3), .second, .val (.long p4), .second, .val (.ref r_294), .val (.int (0 : Int32)), .val (.int (1 : Int32)), .val (.long cc), .second, .val (.ref b314), .val (.int (1 : Int32)), .val (.int (1 : Int32)), .val (.int (1 : Int32)), .val (.int (0 : Int32)), .val (.int (1 : Int32))] [(.int (1 : Int32)), (.int (1 : Int32))])) (fun t k => XS.iload X334.here hx rfl (hb hby at_157) rfl k) ?_
          refine own_go (B := T334.setTop (mkF m 162 #[.val (.long p1), .second, .val (.int p2), .val (.long p3), .second, .val (.long p4), .second, .val (.ref r_294), .val (.int (0 : Int32)), .val (.int (1 : Int32)), .val (.long cc), .second, .val (.ref b314), .val (.int (1 : Int32)), .val (.int (1 : Int32)), .val (.int (1 : Int32)), .val (.int (0 : Int32)), .val (.int (1 : Int32))] [])) (fun t k => XS.icmpNo X334.here hx rfl (hb hby at_159) rfl (teq (by decide : (1 : Int32) = (1 : Int32))).2 k) ?_
          refine own_go (B := T334.setTop (mkF m 163 #[.val (.long p1), .second, .val (.int p2), .val (.long p3), .second, .val (.long p4), .second, .val (.ref r_294), .val (.int (0 : Int32)), .val (.int (1 : Int32)), .val (.long cc), .second, .val (.ref b314), .val (.int (1 : Int32)), .val (.int (1 : Int32)), .val (.int (1 : Int32)), .val (.int (0 : Int32)), .val (.int (1 : Int32))] [(.int (1 : Int32))])) (fun t k => XS.iconst X334.here hx rfl (hb hby at_162) k) ?_
          refine own_go (B := T334.setTop (mkF m 167 #[.val (.long p1), .second, .val (.int p2), .val (.long p3), .second, .val (.long p4), .second, .val (.ref r_294), .val (.int (0 : Int32)), .val (.int (1 : Int32)), .val (.long cc), .second, .val (.ref b314), .val (.int (1 : Int32)), .val (.int (1 : Int32)), .val (.int (1 : Int32)), .val (.int (0 : Int32)), .val (.int (1 : Int32))] [(.int (1 : Int32))])) (fun t k => XS.goto X334.here hx rfl (pc0 := 163) (pc' := 167) rfl (hb hby at_163) (by decide) (by decide) k) ?_
          obtain ⟨fs, hr, hrun, hended, hW, hsame⟩ := X334.leave (v := some (.int (1 : Int32))) (fun h => by rw [Bd.returns] at h; cases h)
          refine ⟨_, _, retN X334 hx (t := .boolean) Bd.returns (by simp) (hb hby at_167) hr, hK _ _ ⟨hrun, hended, _, _, rfl, ?_, ⟨_, rfl⟩, hW, hsame.mono (by decide) (by decide)⟩⟩
          show own_Q_law Z p1 p2 p3 p4 w_REPEATABLE_READ w_READ_UNCOMMITTED w_READ_COMMITTED w_SERIALIZABLE w_DEF h0 n0 _ T334.heap _
          rw [eh334]
          exact ⟨rfl, N334⟩
      by_cases hc46_340 : c0 = (0 : Int64)
      · refine own_go (B := T294.setTop (mkF m 49 #[.val (.long p1), .second, .val (.int p2), .val (.long p3), .second, .val (.long p4), .second, .val (.ref r_294), .val (.int (0 : Int32)), .val (.int (1 : Int32)), .val (.long c0), .second, .unset, .unset, .unset, .unset, .unset, .unset] [])) (fun t k => XS.ifNo X294.here hx rfl (hb hby at_46) rfl ((if0 _ _).trans (teq ((lw_eq c0 (0 : Int64)).mpr hc46_340)).2) k) ?_
        refine own_go (B := T294.setTop (mkF m 50 #[.val (.long p1), .second, .val (.int p2), .val (.long p3), .second, .val (.long p4), .second, .val (.ref r_294), .val (.int (0 : Int32)), .val (.int (1 : Int32)), .val (.long c0), .second, .unset, .unset, .unset, .unset, .unset, .unset] [(.long (1 : Int64))])) (fun t k => XS.lconst X294.here hx rfl (hb hby at_49) k) ?_
        refine own_go (B := T294.setTop (mkF m 52 #[.val (.long p1), .second, .val (.int p2), .val (.long p3), .second, .val (.long p4), .second, .val (.ref r_294), .val (.int (0 : Int32)), .val (.int (1 : Int32)), .val (.long (1 : Int64)), .second, .unset, .unset, .unset, .unset, .unset, .unset] [])) (fun t k => XS.lstore X294.here hx rfl (hb hby at_50) rfl (l' := #[.val (.long p1), .second, .val (.int p2), .val (.long p3), .second, .val (.long p4), .second, .val (.ref r_294), .val (.int (0 : Int32)), .val (.int (1 : Int32)), .val (.long (1 : Int64)), .second, .unset, .unset, .unset, .unset, .unset, .unset]) rfl k) ?_
        exact J313 _ _ X294 N294 eh294 (1 : Int64) (by decide)
      · refine own_go (B := T294.setTop (mkF m 52 #[.val (.long p1), .second, .val (.int p2), .val (.long p3), .second, .val (.long p4), .second, .val (.ref r_294), .val (.int (0 : Int32)), .val (.int (1 : Int32)), .val (.long c0), .second, .unset, .unset, .unset, .unset, .unset, .unset] [])) (fun t k => XS.ifYes X294.here hx rfl (pc0 := 46) (pc' := 52) rfl (hb hby at_46) rfl ((if0 _ _).trans (feq (fun q => hc46_340 ((lw_eq c0 (0 : Int64)).mp q))).2) (by decide) (by decide) k) ?_
        exact J313 _ _ X294 N294 eh294 c0 (by rw [hc0]; exact own_c1 p3 (by rw [← hc0]; exact hc46_340))
  · refine own_go (B := T294.setTop (mkF m 14 #[.val (.long p1), .second, .val (.int p2), .val (.long p3), .second, .val (.long p4), .second, .val (.ref r_294), .unset, .unset, .unset, .unset, .unset, .unset, .unset, .unset, .unset, .unset] [])) (fun t k => XS.ifNo X294.here hx rfl (hb hby at_11) rfl ((if0 _ _).trans (feq hc11_295).1) k) ?_
    refine own_go (B := T294.setTop (mkF m 15 #[.val (.long p1), .second, .val (.int p2), .val (.long p3), .second, .val (.long p4), .second, .val (.ref r_294), .unset, .unset, .unset, .unset, .unset, .unset, .unset, .unset, .unset, .unset] [(.int (1 : Int32))])) (fun t k => XS.iconst X294.here hx rfl (hb hby at_14) k) ?_
    refine own_go (B := T294.setTop (mkF m 19 #[.val (.long p1), .second, .val (.int p2), .val (.long p3), .second, .val (.long p4), .second, .val (.ref r_294), .unset, .unset, .unset, .unset, .unset, .unset, .unset, .unset, .unset, .unset] [(.int (1 : Int32))])) (fun t k => XS.goto X294.here hx rfl (pc0 := 15) (pc' := 19) rfl (hb hby at_15) (by decide) (by decide) k) ?_
    refine own_go (B := T294.setTop (mkF m 21 #[.val (.long p1), .second, .val (.int p2), .val (.long p3), .second, .val (.long p4), .second, .val (.ref r_294), .val (.int (1 : Int32)), .unset, .unset, .unset, .unset, .unset, .unset, .unset, .unset, .unset] [])) (fun t k => XS.istore X294.here hx rfl (hb hby at_19) rfl (l' := #[.val (.long p1), .second, .val (.int p2), .val (.long p3), .second, .val (.long p4), .second, .val (.ref r_294), .val (.int (1 : Int32)), .unset, .unset, .unset, .unset, .unset, .unset, .unset, .unset, .unset]) rfl k) ?_
    refine own_go (B := T294.setTop (mkF m 22 #[.val (.long p1), .second, .val (.int p2), .val (.long p3), .second, .val (.long p4), .second, .val (.ref r_294), .val (.int (1 : Int32)), .unset, .unset, .unset, .unset, .unset, .unset, .unset, .unset, .unset] [(.int p2)])) (fun t k => XS.iloadN X294.here hx rfl (hb hby at_21) rfl k) ?_
    refine own_go (B := T294.setTop (mkF m 24 #[.val (.long p1), .second, .val (.int p2), .val (.long p3), .second, .val (.long p4), .second, .val (.ref r_294), .val (.int (1 : Int32)), .unset, .unset, .unset, .unset, .unset, .unset, .unset, .unset, .unset] [(.int (8 : Int32)), (.int p2)])) (fun t k => XS.bipush X294.here hx rfl (hb hby at_22) k) ?_
    refine own_go (B := T294.setTop (mkF m 25 #[.val (.long p1), .second, .val (.int p2), .val (.long p3), .second, .val (.long p4), .second, .val (.ref r_294), .val (.int (1 : Int32)), .unset, .unset, .unset, .unset, .unset, .unset, .unset, .unset, .unset] [(.int (p2 &&& (8 : Int32)))])) (fun t k => XS.iand X294.here hx rfl (hb hby at_24) rfl k) ?_
    by_cases hc25_341 : (p2 &&& (8 : Int32)) = (0 : Int32)
    · refine own_go (B := T294.setTop (mkF m 32 #[.val (.long p1), .second, .val (.int p2), .val (.long p3), .second, .val (.long p4), .second, .val (.ref r_294), .val (.int (1 : Int32)), .unset, .unset, .unset, .unset, .unset, .unset, .unset, .unset, .unset] [])) (fun t k => XS.ifYes X294.here hx rfl (pc0 := 25) (pc' := 32) rfl (hb hby at_25) rfl ((if0 _ _).trans (teq hc25_341).1) (by decide) (by decide) k) ?_
      refine own_go (B := T294.setTop (mkF m 33 #[.val (.long p1), .second, .val (.int p2), .val (.long p3), .second, .val (.long p4), .second, .val (.ref r_294), .val (.int (1 : Int32)), .unset, .unset, .unset, .unset, .unset, .unset, .unset, .unset, .unset] [(.int (0 : Int32))])) (fun t k => XS.iconst X294.here hx rfl (hb hby at_32) k) ?_
      refine own_go (B := T294.setTop (mkF m 35 #[.val (.long p1), .second, .val (.int p2), .val (.long p3), .second, .val (.long p4), .second, .val (.ref r_294), .val (.int (1 : Int32)), .val (.int (0 : Int32)), .unset, .unset, .unset, .unset, .unset, .unset, .unset, .unset] [])) (fun t k => XS.istore X294.here hx rfl (hb hby at_33) rfl (l' := #[.val (.long p1), .second, .val (.int p2), .val (.long p3), .second, .val (.long p4), .second, .val (.ref r_294), .val (.int (1 : Int32)), .val (.int (0 : Int32)), .unset, .unset, .unset, .unset, .unset, .unset, .unset, .unset]) rfl k) ?_
      refine own_go (B := T294.setTop (mkF m 36 #[.val (.long p1), .second, .val (.int p2), .val (.long p3), .second, .val (.long p4), .second, .val (.ref r_294), .val (.int (1 : Int32)), .val (.int (0 : Int32)), .unset, .unset, .unset, .unset, .unset, .unset, .unset, .unset] [(.long p3)])) (fun t k => XS.lloadN X294.here hx rfl (hb hby at_35) rfl k) ?_
      refine own_go (B := T294.setTop (mkF m 39 #[.val (.long p1), .second, .val (.int p2), .val (.long p3), .second, .val (.long p4), .second, .val (.ref r_294), .val (.int (1 : Int32)), .val (.int (0 : Int32)), .unset, .unset, .unset, .unset, .unset, .unset, .unset, .unset] [(.long (9223372036854775807 : Int64)), (.long p3)])) (fun t k => X294.ldc2Long hx hown (mvT hZ (hw _ (List.mem_of_getElem? (i := 7) rfl))) (g := (mkF m 36 #[.val (.long p1), .second, .val (.int p2), .val (.long p3), .second, .val (.long p4), .second, .val (.ref r_294), .val (.int (1 : Int32)), .val (.int (0 : Int32)), .unset, .unset, .unset, .unset, .unset, .unset, .unset, .unset] [(.long p3)])) rfl (hb hby at_36) _ k) ?_
      refine own_go (B := T294.setTop (mkF m 40 #[.val (.long p1), .second, .val (.int p2), .val (.long p3), .second, .val (.long p4), .second, .val (.ref r_294), .val (.int (1 : Int32)), .val (.int (0 : Int32)), .unset, .unset, .unset, .unset, .unset, .unset, .unset, .unset] [(.long (p3 &&& (9223372036854775807 : Int64)))])) (fun t k => XS.land X294.here hx rfl (hb hby at_39) rfl k) ?_
      refine own_go (B := T294.setTop (mkF m 42 #[.val (.long p1), .second, .val (.int p2), .val (.long p3), .second, .val (.long p4), .second, .val (.ref r_294), .val (.int (1 : Int32)), .val (.int (0 : Int32)), .val (.long (p3 &&& (9223372036854775807 : Int64))), .second, .unset, .unset, .unset, .unset, .unset, .unset] [])) (fun t k => XS.lstore X294.here hx rfl (hb hby at_40) rfl (l' := #[.val (.long p1), .second, .val (.int p2), .val (.long p3), .second, .val (.long p4), .second, .val (.ref r_294), .val (.int (1 : Int32)), .val (.int (0 : Int32)), .val (.long (p3 &&& (9223372036854775807 : Int64))), .second, .unset, .unset, .unset, .unset, .unset, .unset]) rfl k) ?_
      obtain ⟨c0, hc0⟩ : ∃ z, z = (p3 &&& (9223372036854775807 : Int64)) := ⟨_, rfl⟩
      rw [← hc0]
      refine own_go (B := T294.setTop (mkF m 44 #[.val (.long p1), .second, .val (.int p2), .val (.long p3), .second, .val (.long p4), .second, .val (.ref r_294), .val (.int (1 : Int32)), .val (.int (0 : Int32)), .val (.long c0), .second, .unset, .unset, .unset, .unset, .unset, .unset] [(.long c0)])) (fun t k => XS.lload X294.here hx rfl (hb hby at_42) rfl k) ?_
      refine own_go (B := T294.setTop (mkF m 45 #[.val (.long p1), .second, .val (.int p2), .val (.long p3), .second, .val (.long p4), .second, .val (.ref r_294), .val (.int (1 : Int32)), .val (.int (0 : Int32)), .val (.long c0), .second, .unset, .unset, .unset, .unset, .unset, .unset] [(.long (0 : Int64)), (.long c0)])) (fun t k => XS.lconst X294.here hx rfl (hb hby at_44) k) ?_
      refine own_go (B := T294.setTop (mkF m 46 #[.val (.long p1), .second, .val (.int p2), .val (.long p3), .second, .val (.long p4), .second, .val (.ref r_294), .val (.int (1 : Int32)), .val (.int (0 : Int32)), .val (.long c0), .second, .unset, .unset, .unset, .unset, .unset, .unset] [(.int (lcmpW c0 (0 : Int64)))])) (fun t k => XS.lcmp X294.here hx rfl (hb hby at_45) rfl k) ?_
      have J342 : ∀ (T342 : State) (lc342 : List Loc) (X342 : Stand p l e room_1 s m #[(.long p1), (.int p2), (.long p3), (.long p4)] below meth c T342 lc342 0 0) (N342 : Fr n0 lc342) (e342 : T342.heap = h0) (cc : Int64), (0 : Int64) < cc → own_Ends p.tables e below (T342.setTop (mkF m 52 #[.val (.long p1), .second, .val (.int p2), .val (.long p3), .second, .val (.long p4), .second, .val (.ref r_294), .val (.int (1 : Int32)), .val (.int (0 : Int32)), .val (.long cc), .second, .unset, .unset, .unset, .unset, .unset, .unset] [])) K := by
        intro T342 lc342 X342 N342 e342 cc hrel342
        obtain ⟨hz1, hz2, hz3⟩ := own_cs cc hrel342
        obtain ⟨T343, h343, X343, e343, E343, A343, D343, -, st343⟩ := newO X342 hx hZ hown (hw _ (List.mem_of_getElem? (i := 8) rfl)) (hw _ (List.mem_of_getElem? (i := 9) rfl)) (hw _ (List.mem_of_getElem? (i := 10) rfl)) e342 (g := (mkF m 52 #[.val (.long p1), .second, .val (.int p2), .val (.long p3), .second, .val (.long p4), .second, .val (.ref r_294), .val (.int (1 : Int32)), .val (.int (0 : Int32)), .val (.long cc), .second, .unset, .unset, .unset, .unset, .unset, .unset] [])) rfl (hb hby at_52) (by decide) (by decide)
        obtain ⟨b343, g343⟩ : ∃ z, z = h0.size := ⟨_, rfl⟩
        rw [← g343] at A343 D343 st343
        have g_b343 : n0 ≤ b343 := Nat.le_trans (own_n0 O0) (Nat.le_of_eq g343.symm)
        have O343 := O0.ext E343
        have F343_75 : Fld Z h343 b343 "com/example/interleave/interleave/engine/Transaction" "undo" "Lcom/example/interleave/interleave/engine/UndoLog;" .null := D343 (Or.inr (hw _ (List.mem_of_getElem? (i := 75) rfl))) (ty := (.object "com/example/interleave/interleave/engine/UndoLog")) (by decide)
        have F343_103 : Fld Z h343 b343 "com/example/interleave/interleave/engine/Transaction" "written" "Ljava/util/Map;" .null := D343 (Or.inr (hw _ (List.mem_of_getElem? (i := 103) rfl))) (ty := (.object "java/util/Map")) (by decide)
        have F343_106 : Fld Z h343 b343 "com/example/interleave/interleave/engine/Transaction" "snapshot" "J" (.long (0 : Int64)) := D343 (Or.inl (hw _ (List.mem_of_getElem? (i := 106) rfl))) (ty := .long) (by decide)
        have F343_108 : Fld Z h343 b343 "com/example/interleave/interleave/engine/Transaction" "commitNumber" "J" (.long (0 : Int64)) := D343 (Or.inl (hw _ (List.mem_of_getElem? (i := 108) rfl))) (ty := .long) (by decide)
        have F343_110 : Fld Z h343 b343 "com/example/interleave/interleave/engine/Transaction" "beginNumber" "J" (.long (0 : Int64)) := D343 (Or.inr (hw _ (List.mem_of_getElem? (i := 110) rfl))) (ty := .long) (by decide)
        have F343_112 : Fld Z h343 b343 "com/example/interleave/interleave/engine/Transaction" "level" "Lcom/example/interleave/interleave/sql/IsolationLevel;" .null := D343 (Or.inr (hw _ (List.mem_of_getElem? (i := 112) rfl))) (ty := (.object "com/example/interleave/interleave/sql/IsolationLevel")) (by decide)
        have F343_114 : Fld Z h343 b343 "com/example/interleave/interleave/engine/Transaction" "autocommit" "Z" (.int (0 : Int32)) := D343 (Or.inr (hw _ (List.mem_of_getElem? (i := 114) rfl))) (ty := .boolean) (by decide)
        refine own_go (B := T343.setTop (mkF m 55 #[.val (.long p1), .second, .val (.int p2), .val (.long p3), .second, .val (.long p4), .second, .val (.ref r_294), .val (.int (1 : Int32)), .val (.int (0 : Int32)), .val (.long cc), .second, .unset, .unset, .unset, .unset, .unset, .unset] [(.ref b343)])) (fun t k => st343 _ k) ?_
        refine own_go (B := T343.setTop (mkF m 56 #[.val (.long p1), .second, .val (.int p2), .val (.long p3), .second, .val (.long p4), .second, .val (.ref r_294), .val (.int (1 : Int32)), .val (.int (0 : Int32)), .val (.long cc), .second, .unset, .unset, .unset, .unset, .unset, .unset] [(.ref b343), (.ref b343)])) (fun t k => XS.dup X343.here hx rfl (hb hby at_55) rfl rfl k) ?_
        refine own_go (B := T343.setTop (mkF m 57 #[.val (.long p1), .second, .val (.int p2), .val (.long p3), .second, .val (.long p4), .second, .val (.ref r_294), .val (.int (1 : Int32)), .val (.int (0 : Int32)), .val (.long cc), .second, .unset, .unset, .unset, .unset, .unset, .unset] [(.long p1), (.ref b343), (.ref b343)])) (fun t k => XS.lloadN X343.here hx rfl (hb hby at_56) rfl k) ?_
        refine own_go (B := T343.setTop (mkF m 59 #[.val (.long p1), .second, .val (.int p2), .val (.long p3), .second, .val (.long p4), .second, .val (.ref r_294), .val (.int (1 : Int32)), .val (.int (0 : Int32)), .val (.long cc), .second, .unset, .unset, .unset, .unset, .unset, .unset] [(.ref r_294), (.long p1), (.ref b343), (.ref b343)])) (fun t k => XS.aload X343.here hx rfl (hb hby at_57) rfl rfl k) ?_
        refine own_go (B := T343.setTop (mkF m 61 #[.val (.long p1), .second, .val (.int p2), .val (.long p3), .second, .val (.long p4), .second, .val (.ref r_294), .val (.int (1 : Int32)), .val (.int (0 : Int32)), .val (.long cc), .second, .unset, .unset, .unset, .unset, .unset, .unset] [(.int (1 : Int32)), (.ref r_294), (.long p1), (.ref b343), (.ref b343)])) (fun t k => XS.iload X343.here hx rfl (hb hby at_59) rfl k) ?_
        have lt_b343_344 := A343.lt
        obtain ⟨_, _, ⟨T345, L345, k345, n345⟩, -, X345, ⟨Lc345, hQ345, l345, y345, z345⟩, st345⟩ := X343.specialBack hx (y := (⟨"com/example/interleave/interleave/engine/Transaction", "<init>", "(JLcom/example/interleave/interleave/sql/IsolationLevel;Z)V"⟩ : MethodName)) rfl hown (mvT hZ (hw _ (List.mem_of_getElem? (i := 11) rfl))) (mvT hZ (hw _ (List.mem_of_getElem? (i := 12) rfl))) (mvT hZ (hw _ (List.mem_of_getElem? (i := 13) rfl))) (by decide) (backOf (W := 1) (own_rm_tr1 l Z a0 hw [] b343 r_294 w_DEF p1 h343 n0 O343 S_DEF A343 g_b343 F343_75 F343_103 F343_106 F343_108 F343_110 F343_112 F343_114) hZ (hw _ (List.mem_of_getElem? (i := 13) rfl)) (hw _ (List.mem_of_getElem? (i := 10) rfl)) (by decide) (by decide)) (g := (mkF m 61 #[.val (.long p1), .second, .val (.int p2), .val (.long p3), .second, .val (.long p4), .second, .val (.ref r_294), .val (.int (1 : Int32)), .val (.int (0 : Int32)), .val (.long cc), .second, .unset, .unset, .unset, .unset, .unset, .unset] [(.int (1 : Int32)), (.ref r_294), (.long p1), (.ref b343), (.ref b343)])) rfl (by rw [hml]; rfl) (Steps.refl _) (a := b343) (argsL := [(.long p1), (.ref r_294), (.int (1 : Int32))]) (rest := [(.ref b343)]) (lenOf own_pd_4 rfl) rfl (by show 2 * 0 + _ ≤ _; exact Nat.le_of_eq rfl) (hb hby at_61) (fun _ _ => ⟨rfl, e343, (by decide : 1 + 5 ≤ _), (by decide : 8 + 21 ≤ _)⟩)
        dsimp only [Pt.U, Pt.locs, Pt.cells, Pt.slots] at X345 l345 y345 z345 st345 hQ345
        subst l345 y345 z345
        obtain ⟨un_345, wr_345, en_345, ch_345, rfl, N345q, Kc345, Q345_0, Q345_1, Q345_2, Q345_3, Q345_4, Q345_5, Q345_6, Q345_7, Q345_8, Q345_9, Q345_10, Q345_11, Q345_12, Q345_13, Q345_14, Q345_15, Q345_16, Q345_17, Q345_18, Q345_19, Q345_20, Q345_21⟩ := hQ345
        have O345 := O343.keep Kc345 (allS g_b343 all0)
        have N345 := Fr.app N342 N345q
        refine own_go (B := T345.setTop (mkF m 64 #[.val (.long p1), .second, .val (.int p2), .val (.long p3), .second, .val (.long p4), .second, .val (.ref r_294), .val (.int (1 : Int32)), .val (.int (0 : Int32)), .val (.long cc), .second, .unset, .unset, .unset, .unset, .unset, .unset] [(.ref b343)])) (fun t k => st345.trans k) ?_
        have g_un_345 : n0 ≤ un_345 := Nat.le_trans (own_n0 O343) Q345_0
        have g_wr_345 : n0 ≤ wr_345 := Nat.le_trans (own_n0 O343) Q345_1
        have g_en_345 : n0 ≤ en_345 := Nat.le_trans (own_n0 O343) Q345_2
        have g_ch_345 : n0 ≤ ch_345 := Nat.le_trans (own_n0 O343) Q345_3
        refine own_go (B := T345.setTop (mkF m 66 #[.val (.long p1), .second, .val (.int p2), .val (.long p3), .second, .val (.long p4), .second, .val (.ref r_294), .val (.int (1 : Int32)), .val (.int (0 : Int32)), .val (.long cc), .second, .val (.ref b343), .unset, .unset, .unset, .unset, .unset] [])) (fun t k => XS.astore X345.here hx rfl (hb hby at_64) rfl rfl (l' := #[.val (.long p1), .second, .val (.int p2), .val (.long p3), .second, .val (.long p4), .second, .val (.ref r_294), .val (.int (1 : Int32)), .val (.int (0 : Int32)), .val (.long cc), .second, .val (.ref b343), .unset, .unset, .unset, .unset, .unset]) rfl k) ?_
        refine own_go (B := T345.setTop (mkF m 68 #[.val (.long p1), .second, .val (.int p2), .val (.long p3), .second, .val (.long p4), .second, .val (.ref r_294), .val (.int (1 : Int32)), .val (.int (0 : Int32)), .val (.long cc), .second, .val (.ref b343), .unset, .unset, .unset, .unset, .unset] [(.int (0 : Int32))])) (fun t k => XS.iload X345.here hx rfl (hb hby at_66) rfl k) ?_
        refine own_go (B := T345.setTop (mkF m 78 #[.val (.long p1), .second, .val (.int p2), .val (.long p3), .second, .val (.long p4), .second, .val (.ref r_294), .val (.int (1 : Int32)), .val (.int (0 : Int32)), .val (.long cc), .second, .val (.ref b343), .unset, .unset, .unset, .unset, .unset] [])) (fun t k => XS.ifYes X345.here hx rfl (pc0 := 68) (pc' := 78) rfl (hb hby at_68) rfl ((if0 _ _).trans (teq (by decide : (0 : Int32) = (0 : Int32))).1) (by decide) (by decide) k) ?_
        refine own_go (B := T345.setTop (mkF m 79 #[.val (.long p1), .second, .val (.int p2), .val (.long p3), .second, .val (.long p4), .second, .val (.ref r_294), .val (.int (1 : Int32)), .val (.int (0 : Int32)), .val (.long cc), .second, .val (.ref b343), .unset, .unset, .unset, .unset, .unset] [(.int (0 : Int32))])) (fun t k => XS.iconst X345.here hx rfl (hb hby at_78) k) ?_
        refine own_go (B := T345.setTop (mkF m 81 #[.val (.long p1), .second, .val (.int p2), .val (.long p3), .second, .val (.long p4), .second, .val (.ref r_294), .val (.int (1 : Int32)), .val (.int (0 : Int32)), .val (.long cc), .second, .val (.ref b343), .val (.int (0 : Int32)), .unset, .unset, .unset, .unset] [])) (fun t k => XS.istore X345.here hx rfl (hb hby at_79) rfl (l' := #[.val (.long p1), .second, .val (.int p2), .val (.long p3), .second, .val (.long p4), .second, .val (.ref r_294), .val (.int (1 : Int32)), .val (.int (0 : Int32)), .val (.long cc), .second, .val (.ref b343), .val (.int (0 : Int32)), .unset, .unset, .unset, .unset]) rfl k) ?_
        refine own_go (B := T345.setTop (mkF m 83 #[.val (.long p1), .second, .val (.int p2), .val (.long p3), .second, .val (.long p4), .second, .val (.ref r_294), .val (.int (1 : Int32)), .val (.int (0 : Int32)), .val (.long cc), .second, .val (.ref b343), .val (.int (0 : Int32)), .unset, .unset, .unset, .unset] [(.int (0 : Int32))])) (fun t k => XS.iload X345.here hx rfl (hb hby at_81) rfl k) ?_
        refine own_go (B := T345.setTop (mkF m 97 #[.val (.long p1), .second, .val (.int p2), .val (.long p3), .second, .val (.long p4), .second, .val (.ref r_294), .val (.int (1 : Int32)), .val (.int (0 : Int32)), .val (.long cc), .second, .val (.ref b343), .val (.int (0 : Int32)), .unset, .unset, .unset, .unset] [])) (fun t k => XS.ifYes X345.here hx rfl (pc0 := 83) (pc' := 97) rfl (hb hby at_83) rfl ((if0 _ _).trans (teq (by decide : (0 : Int32) = (0 : Int32))).1) (by decide) (by decide) k) ?_
        refine own_go (B := T345.setTop (mkF m 99 #[.val (.long p1), .second, .val (.int p2), .val (.long p3), .second, .val (.long p4), .second, .val (.ref r_294), .val (.int (1 : Int32)), .val (.int (0 : Int32)), .val (.long cc), .second, .val (.ref b343), .val (.int (0 : Int32)), .unset, .unset, .unset, .unset] [(.ref b343)])) (fun t k => XS.aload X345.here hx rfl (hb hby at_97) rfl rfl k) ?_
        refine own_go (B := T345.setTop (mkF m 101 #[.val (.long p1), .second, .val (.int p2), .val (.long p3), .second, .val (.long p4), .second, .val (.ref r_294), .val (.int (1 : Int32)), .val (.int (0 : Int32)), .val (.long cc), .second, .val (.ref b343), .val (.int (0 : Int32)), .unset, .unset, .unset, .unset] [(.long p4), (.ref b343)])) (fun t k => XS.lload X345.here hx rfl (hb hby at_99) rfl k) ?_
        obtain ⟨cq348, kq348, q348a, q348b, q348c⟩ := isOf hZ (rfl : T345.heap = T345.heap) Q345_4
        obtain ⟨_, _, ⟨T348, L348, k348, n348⟩, -, X348, ⟨Lc348, hQ348, l348, y348, z348⟩, st348⟩ := X345.virtualBack hx (y := (⟨"com/example/interleave/interleave/engine/Transaction", "committedBy", "(J)Z"⟩ : MethodName)) (z := (⟨"com/example/interleave/interleave/engine/Transaction", "committedBy", "(J)Z"⟩ : MethodName)) hown (mvT hZ (hw _ (List.mem_of_getElem? (i := 115) rfl))) (mvT hZ (hw _ (List.mem_of_getElem? (i := 116) rfl))) (notFace_of_selects (args := #[]) (mvT hZ (hw _ (List.mem_of_getElem? (i := 118) rfl)))) (mvT hZ (hw _ (List.mem_of_getElem? (i := 118) rfl))) (mvT hZ (hw _ (List.mem_of_getElem? (i := 117) rfl))) (by decide) (backOf (W := 0) (own_rm_cby l Z a0 hw [] b343 p4 (0 : Int64) (0 : Int32) T345.heap n0 O345 Q345_7 (by simp [(by decide : (0 : Int64) = (0 : Int64))])) hZ (hw _ (List.mem_of_getElem? (i := 119) rfl)) (hw _ (List.mem_of_getElem? (i := 10) rfl)) (by decide) (by decide)) q348a q348c (g := (mkF m 101 #[.val (.long p1), .second, .val (.int p2), .val (.long p3), .second, .val (.long p4), .second, .val (.ref r_294), .val (.int (1 : Int32)), .val (.int (0 : Int32)), .val (.long cc), .second, .val (.ref b343), .val (.int (0 : Int32)), .unset, .unset, .unset, .unset] [(.long p4), (.ref b343)])) rfl (by rw [hml]; rfl) (Steps.refl _) (argsL := [(.long p4)]) (rest := []) (lenOf own_pd_5 rfl) rfl (by show 2 * 0 + _ ≤ _; exact Nat.le_of_eq rfl) (hb hby at_101) (fun _ _ => ⟨rfl, (rfl : T345.heap = T345.heap), (by decide : 6 + 0 ≤ _), (by decide : 29 + 0 ≤ _)⟩)
        dsimp only [Pt.U, Pt.locs, Pt.cells, Pt.slots] at X348 l348 y348 z348 st348 hQ348
        subst l348 y348 z348
        obtain ⟨rfl, N348q, eh348⟩ := hQ348
        have N348 := Fr.app N345 N348q
        refine own_go (B := T348.setTop (mkF m 104 #[.val (.long p1), .second, .val (.int p2), .val (.long p3), .second, .val (.long p4), .second, .val (.ref r_294), .val (.int (1 : Int32)), .val (.int (0 : Int32)), .val (.long cc), .second, .val (.ref b343), .val (.int (0 : Int32)), .unset, .unset, .unset, .unset] [(.int (0 : Int32))])) (fun t k => st348.trans k) ?_
        refine own_go (B := T348.setTop (mkF m 106 #[.val (.long p1), .second, .val (.int p2), .val (.long p3), .second, .val (.long p4), .second, .val (.ref r_294), .val (.int (1 : Int32)), .val (.int (0 : Int32)), .val (.long cc), .second, .val (.ref b343), .val (.int (0 : Int32)), .val (.int (0 : Int32)), .unset, .unset, .unset] [])) (fun t k => XS.istore X348.here hx rfl (hb hby at_104) rfl (l' := #[.val (.long p1), .second, .val (.int p2), .val (.long p3), .second, .val (.long p4), .second, .val (.ref r_294), .val (.int (1 : Int32)), .val (.int (0 : Int32)), .val (.long cc), .second, .val (.ref b343), .val (.int (0 : Int32)), .val (.int (0 : Int32)), .unset, .unset, .unset]) rfl k) ?_
        refine own_go (B := T348.setTop (mkF m 108 #[.val (.long p1), .second, .val (.int p2), .val (.long p3), .second, .val (.long p4), .second, .val (.ref r_294), .val (.int (1 : Int32)), .val (.int (0 : Int32)), .val (.long cc), .second, .val (.ref b343), .val (.int (0 : Int32)), .val (.int (0 : Int32)), .unset, .unset, .unset] [(.ref b343)])) (fun t k => XS.aload X348.here hx rfl (hb hby at_106) rfl rfl k) ?_
        refine own_go (B := T348.setTop (mkF m 110 #[.val (.long p1), .second, .val (.int p2), .val (.long p3), .second, .val (.long p4), .second, .val (.ref r_294), .val (.int (1 : Int32)), .val (.int (0 : Int32)), .val (.long cc), .second, .val (.ref b343), .val (.int (0 : Int32)), .val (.int (0 : Int32)), .unset, .unset, .unset] [(.long cc), (.ref b343)])) (fun t k => XS.lload X348.here hx rfl (hb hby at_108) rfl k) ?_
        obtain ⟨cq349, kq349, q349a, q349b, q349c⟩ := isOf hZ eh348 Q345_4
        obtain ⟨_, _, ⟨T349, L349, k349, n349⟩, -, X349, ⟨Lc349, hQ349, l349, y349, z349⟩, st349⟩ := X348.virtualBack hx (y := (⟨"com/example/interleave/interleave/engine/Transaction", "committedBy", "(J)Z"⟩ : MethodName)) (z := (⟨"com/example/interleave/interleave/engine/Transaction", "committedBy", "(J)Z"⟩ : MethodName)) hown (mvT hZ (hw _ (List.mem_of_getElem? (i := 115) rfl))) (mvT hZ (hw _ (List.mem_of_getElem? (i := 116) rfl))) (notFace_of_selects (args := #[]) (mvT hZ (hw _ (List.mem_of_getElem? (i := 118) rfl)))) (mvT hZ (hw _ (List.mem_of_getElem? (i := 118) rfl))) (mvT hZ (hw _ (List.mem_of_getElem? (i := 117) rfl))) (by decide) (backOf (W := 0) (own_rm_cby l Z a0 hw [] b343 cc (0 : Int64) (0 : Int32) T345.heap n0 O345 Q345_7 (by simp [(by decide : (0 : Int64) = (0 : Int64))])) hZ (hw _ (List.mem_of_getElem? (i := 119) rfl)) (hw _ (List.mem_of_getElem? (i := 10) rfl)) (by decide) (by decide)) q349a q349c (g := (mkF m 110 #[.val (.long p1), .second, .val (.int p2), .val (.long p3), .second, .val (.long p4), .second, .val (.ref r_294), .val (.int (1 : Int32)), .val (.int (0 : Int32)), .val (.long cc), .second, .val (.ref b343), .val (.int (0 : Int32)), .val (.int (0 : Int32)), .unset, .unset, .unset] [(.long cc), (.ref b343)])) rfl (by rw [hml]; rfl) (Steps.refl _) (argsL := [(.long cc)]) (rest := []) (lenOf own_pd_5 rfl) rfl (by show 2 * 0 + _ ≤ _; exact Nat.le_of_eq rfl) (hb hby at_110) (fun _ _ => ⟨rfl, eh348, (by decide : 6 + 0 ≤ _), (by decide : 29 + 0 ≤ _)⟩)
        dsimp only [Pt.U, Pt.locs, Pt.cells, Pt.slots] at X349 l349 y349 z349 st349 hQ349
        subst l349 y349 z349
        obtain ⟨rfl, N349q, eh349⟩ := hQ349
        have N349 := Fr.app N348 N349q
        refine own_go (B := T349.setTop (mkF m 113 #[.val (.long p1), .second, .val (.int p2), .val (.long p3), .second, .val (.long p4), .second, .val (.ref r_294), .val (.int (1 : Int32)), .val (.int (0 : Int32)), .val (.long cc), .second, .val (.ref b343), .val (.int (0 : Int32)), .val (.int (0 : Int32)), .unset, .unset, .unset] [(.int (0 : Int32))])) (fun t k => st349.trans k) ?_
        refine own_go (B := T349.setTop (mkF m 115 #[.val (.long p1), .second, .val (.int p2), .val (.long p3), .second, .val (.long p4), .second, .val (.ref r_294), .val (.int (1 : Int32)), .val (.int (0 : Int32)), .val (.long cc), .second, .val (.ref b343), .val (.int (0 : Int32)), .val (.int (0 : Int32)), .val (.int (0 : Int32)), .unset, .unset] [])) (fun t k => XS.istore X349.here hx rfl (hb hby at_113) rfl (l' := #[.val (.long p1), .second, .val (.int p2), .val (.long p3), .second, .val (.long p4), .second, .val (.ref r_294), .val (.int (1 : Int32)), .val (.int (0 : Int32)), .val (.long cc), .second, .val (.ref b343), .val (.int (0 : Int32)), .val (.int (0 : Int32)), .val (.int (0 : Int32)), .unset, .unset]) rfl k) ?_
        refine own_go (B := T349.setTop (mkF m 117 #[.val (.long p1), .second, .val (.int p2), .val (.long p3), .second, .val (.long p4), .second, .val (.ref r_294), .val (.int (1 : Int32)), .val (.int (0 : Int32)), .val (.long cc), .second, .val (.ref b343), .val (.int (0 : Int32)), .val (.int (0 : Int32)), .val (.int (0 : Int32)), .unset, .unset] [(.ref b343)])) (fun t k => XS.aload X349.here hx rfl (hb hby at_115) rfl rfl k) ?_
        refine own_go (B := T349.setTop (mkF m 119 #[.val (.long p1), .second, .val (.int p2), .val (.long p3), .second, .val (.long p4), .second, .val (.ref r_294), .val (.int (1 : Int32)), .val (.int (0 : Int32)), .val (.long cc), .second, .val (.ref b343), .val (.int (0 : Int32)), .val (.int (0 : Int32)), .val (.int (0 : Int32)), .unset, .unset] [(.long cc), (.ref b343)])) (fun t k => XS.lload X349.here hx rfl (hb hby at_117) rfl k) ?_
        refine own_go (B := T349.setTop (mkF m 120 #[.val (.long p1), .second, .val (.int p2), .val (.long p3), .second, .val (.long p4), .second, .val (.ref r_294), .val (.int (1 : Int32)), .val (.int (0 : Int32)), .val (.long cc), .second, .val (.ref b343), .val (.int (0 : Int32)), .val (.int (0 : Int32)), .val (.int (0 : Int32)), .unset, .unset] [(.long (1 : Int64)), (.long cc), (.ref b343)])) (fun t k => XS.lconst X349.here hx rfl (hb hby at_119) k) ?_
        refine own_go (B := T349.setTop (mkF m 121 #[.val (.long p1), .second, .val (.int p2), .val (.long p3), .second, .val (.long p4), .second, .val (.ref r_294), .val (.int (1 : Int32)), .val (.int (0 : Int32)), .val (.long cc), .second, .val (.ref b343), .val (.int (0 : Int32)), .val (.int (0 : Int32)), .val (.int (0 : Int32)), .unset, .unset] [(.long (cc - (1 : Int64))), (.ref b343)])) (fun t k => XS.lsub X349.here hx rfl (hb hby at_120) rfl k) ?_
        obtain ⟨cq350, kq350, q350a, q350b, q350c⟩ := isOf hZ eh349 Q345_4
        obtain ⟨_, _, ⟨T350, L350, k350, n350⟩, -, X350, ⟨Lc350, hQ350, l350, y350, z350⟩, st350⟩ := X349.virtualBack hx (y := (⟨"com/example/interleave/interleave/engine/Transaction", "committedBy", "(J)Z"⟩ : MethodName)) (z := (⟨"com/example/interleave/interleave/engine/Transaction", "committedBy", "(J)Z"⟩ : MethodName)) hown (mvT hZ (hw _ (List.mem_of_getElem? (i := 115) rfl))) (mvT hZ (hw _ (List.mem_of_getElem? (i := 116) rfl))) (notFace_of_selects (args := #[]) (mvT hZ (hw _ (List.mem_of_getElem? (i := 118) rfl)))) (mvT hZ (hw _ (List.mem_of_getElem? (i := 118) rfl))) (mvT hZ (hw _ (List.mem_of_getElem? (i := 117) rfl))) (by decide) (backOf (W := 0) (own_rm_cby l Z a0 hw [] b343 (cc - (1 : Int64)) (0 : Int64) (0 : Int32) T345.heap n0 O345 Q345_7 (by simp [(by decide : (0 : Int64) = (0 : Int64))])) hZ (hw _ (List.mem_of_getElem? (i := 119) rfl)) (hw _ (List.mem_of_getElem? (i := 10) rfl)) (by decide) (by decide)) q350a q350c (g := (mkF m 121 #[.val (.long p1), .second, .val (.int p2), .val (.long p3), .second, .val (.long p4), .second, .val (.ref r_294), .val (.int (1 : Int32)), .val (.int (0 : Int32)), .val (.long cc), .second, .val (.ref b343), .val (.int (0 : Int32)), .val (.int (0 : Int32)), .val (.int (0 : Int32)), .unset, .unset] [(.long (cc - (1 : Int64))), (.ref b343)])) rfl (by rw [hml]; rfl) (Steps.refl _) (argsL := [(.long (cc - (1 : Int64)))]) (rest := []) (lenOf own_pd_5 rfl) rfl (by show 2 * 0 + _ ≤ _; exact Nat.le_of_eq rfl) (hb hby at_121) (fun _ _ => ⟨rfl, eh349, (by decide : 6 + 0 ≤ _), (by decide : 29 + 0 ≤ _)⟩)
        dsimp only [Pt.U, Pt.locs, Pt.cells, Pt.slots] at X350 l350 y350 z350 st350 hQ350
        subst l350 y350 z350
        obtain ⟨rfl, N350q, eh350⟩ := hQ350
        have N350 := Fr.app N349 N350q
        refine own_go (B := T350.setTop (mkF m 124 #[.val (.long p1), .second, .val (.int p2), .val (.long p3), .second, .val (.long p4), .second, .val (.ref r_294), .val (.int (1 : Int32)), .val (.int (0 : Int32)), .val (.long cc), .second, .val (.ref b343), .val (.int (0 : Int32)), .val (.int (0 : Int32)), .val (.int (0 : Int32)), .unset, .unset] [(.int (0 : Int32))])) (fun t k => st350.trans k) ?_
        refine own_go (B := T350.setTop (mkF m 126 #[.val (.long p1), .second, .val (.int p2), .val (.long p3), .second, .val (.long p4), .second, .val (.ref r_294), .val (.int (1 : Int32)), .val (.int (0 : Int32)), .val (.long cc), .second, .val (.ref b343), .val (.int (0 : Int32)), .val (.int (0 : Int32)), .val (.int (0 : Int32)), .val (.int (0 : Int32)), .unset] [])) (fun t k => XS.istore X350.here hx rfl (hb hby at_124) rfl (l' := #[.val (.long p1), .second, .val (.int p2), .val (.long p3), .second, .val (.long p4), .second, .val (.ref r_294), .val (.int (1 : Int32)), .val (.int (0 : Int32)), .val (.long cc), .second, .val (.ref b343), .val (.int (0 : Int32)), .val (.int (0 : Int32)), .val (.int (0 : Int32)), .val (.int (0 : Int32)), .unset]) rfl k) ?_
        refine own_go (B := T350.setTop (mkF m 128 #[.val (.long p1), .second, .val (.int p2), .val (.long p3), .second, .val (.long p4), .second, .val (.ref r_294), .val (.int (1 : Int32)), .val (.int (0 : Int32)), .val (.long cc), .second, .val (.ref b343), .val (.int (0 : Int32)), .val (.int (0 : Int32)), .val (.int (0 : Int32)), .val (.int (0 : Int32)), .unset] [(.ref b343)])) (fun t k => XS.aload X350.here hx rfl (hb hby at_126) rfl rfl k) ?_
        refine own_go (B := T350.setTop (mkF m 131 #[.val (.long p1), .second, .val (.int p2), .val (.long p3), .second, .val (.long p4), .second, .val (.ref r_294), .val (.int (1 : Int32)), .val (.int (0 : Int32)), .val (.long cc), .second, .val (.ref b343), .val (.int (0 : Int32)), .val (.int (0 : Int32)), .val (.int (0 : Int32)), .val (.int (0 : Int32)), .unset] [(.long (9223372036854775807 : Int64)), (.ref b343)])) (fun t k => X350.ldc2Long hx hown (mvT hZ (hw _ (List.mem_of_getElem? (i := 7) rfl))) (g := (mkF m 128 #[.val (.long p1), .second, .val (.int p2), .val (.long p3), .second, .val (.long p4), .second, .val (.ref r_294), .val (.int (1 : Int32)), .val (.int (0 : Int32)), .val (.long cc), .second, .val (.ref b343), .val (.int (0 : Int32)), .val (.int (0 : Int32)), .val (.int (0 : Int32)), .val (.int (0 : Int32)), .unset] [(.ref b343)])) rfl (hb hby at_128) _ k) ?_
        obtain ⟨cq351, kq351, q351a, q351b, q351c⟩ := isOf hZ eh350 Q345_4
        obtain ⟨_, _, ⟨T351, L351, k351, n351⟩, -, X351, ⟨Lc351, hQ351, l351, y351, z351⟩, st351⟩ := X350.virtualBack hx (y := (⟨"com/example/interleave/interleave/engine/Transaction", "committedBy", "(J)Z"⟩ : MethodName)) (z := (⟨"com/example/interleave/interleave/engine/Transaction", "committedBy", "(J)Z"⟩ : MethodName)) hown (mvT hZ (hw _ (List.mem_of_getElem? (i := 115) rfl))) (mvT hZ (hw _ (List.mem_of_getElem? (i := 116) rfl))) (notFace_of_selects (args := #[]) (mvT hZ (hw _ (List.mem_of_getElem? (i := 118) rfl)))) (mvT hZ (hw _ (List.mem_of_getElem? (i := 118) rfl))) (mvT hZ (hw _ (List.mem_of_getElem? (i := 117) rfl))) (by decide) (backOf (W := 0) (own_rm_cby l Z a0 hw [] b343 (9223372036854775807 : Int64) (0 : Int64) (0 : Int32) T345.heap n0 O345 Q345_7 (by simp [(by decide : (0 : Int64) = (0 : Int64)), (by decide : ¬ ((9223372036854775807 : Int64) < (0 : Int64)))])) hZ (hw _ (List.mem_of_getElem? (i := 119) rfl)) (hw _ (List.mem_of_getElem? (i := 10) rfl)) (by decide) (by decide)) q351a q351c (g := (mkF m 131 #[.val (.long p1), .second, .val (.int p2), .val (.long p3), .second, .val (.long p4), .second, .val (.ref r_294), .val (.int (1 : Int32)), .val (.int (0 : Int32)), .val (.long cc), .second, .val (.ref b343), .val (.int (0 : Int32)), .val (.int (0 : Int32)), .val (.int (0 : Int32)), .val (.int (0 : Int32)), .unset] [(.long (9223372036854775807 : Int64)), (.ref b343)])) rfl (by rw [hml]; rfl) (Steps.refl _) (argsL := [(.long (9223372036854775807 : Int64))]) (rest := []) (lenOf own_pd_5 rfl) rfl (by show 2 * 0 + _ ≤ _; exact Nat.le_of_eq rfl) (hb hby at_131) (fun _ _ => ⟨rfl, eh350, (by decide : 6 + 0 ≤ _), (by decide : 29 + 0 ≤ _)⟩)
        dsimp only [Pt.U, Pt.locs, Pt.cells, Pt.slots] at X351 l351 y351 z351 st351 hQ351
        subst l351 y351 z351
        obtain ⟨rfl, N351q, eh351⟩ := hQ351
        have N351 := Fr.app N350 N351q
        refine own_go (B := T351.setTop (mkF m 134 #[.val (.long p1), .second, .val (.int p2), .val (.long p3), .second, .val (.long p4), .second, .val (.ref r_294), .val (.int (1 : Int32)), .val (.int (0 : Int32)), .val (.long cc), .second, .val (.ref b343), .val (.int (0 : Int32)), .val (.int (0 : Int32)), .val (.int (0 : Int32)), .val (.int (0 : Int32)), .unset] [(.int (0 : Int32))])) (fun t k => st351.trans k) ?_
        refine own_go (B := T351.setTop (mkF m 136 #[.val (.long p1), .second, .val (.int p2), .val (.long p3), .second, .val (.long p4), .second, .val (.ref r_294), .val (.int (1 : Int32)), .val (.int (0 : Int32)), .val (.long cc), .second, .val (.ref b343), .val (.int (0 : Int32)), .val (.int (0 : Int32)), .val (.int (0 : Int32)), .val (.int (0 : Int32)), .val (.int (0 : Int32))] [])) (fun t k => XS.istore X351.here hx rfl (hb hby at_134) rfl (l' := #[.val (.long p1), .second, .val (.int p2), .val (.long p3), .second, .val (.long p4), .second, .val (.ref r_294), .val (.int (1 : Int32)), .val (.int (0 : Int32)), .val (.long cc), .second, .val (.ref b343), .val (.int (0 : Int32)), .val (.int (0 : Int32)), .val (.int (0 : Int32)), .val (.int (0 : Int32)), .val (.int (0 : Int32))]) rfl k) ?_
        refine own_go (B := T351.setTop (mkF m 138 #[.val (.long p1), .second, .val (.int p2), .val (.long p3), .second, .val (.long p4), .second, .val (.ref r_294), .val (.int (1 : Int32)), .val (.int (0 : Int32)), .val (.long cc), .second, .val (.ref b343), .val (.int (0 : Int32)), .val (.int (0 : Int32)), .val (.int (0 : Int32)), .val (.int (0 : Int32)), .val (.int (0 : Int32))] [(.int (0 : Int32))])) (fun t k => XS.iload X351.here hx rfl (hb hby at_136) rfl k) ?_
        refine own_go (B := T351.setTop (mkF m 140 #[.val (.long p1), .second, .val (.int p2), .val (.long p3), .second, .val (.long p4), .second, .val (.ref r_294), .val (.int (1 : Int32)), .val (.int (0 : Int32)), .val (.long cc), .second, .val (.ref b343), .val (.int (0 : Int32)), .val (.int (0 : Int32)), .val (.int (0 : Int32)), .val (.int (0 : Int32)), .val (.int (0 : Int32))] [(.int (0 : Int32)), (.int (0 : Int32))])) (fun t k => XS.iload X351.here hx rfl (hb hby at_138) rfl k) ?_
        refine own_go (B := T351.setTop (mkF m 143 #[.val (.long p1), .second, .val (.int p2), .val (.long p3), .second, .val (.long p4), .second, .val (.ref r_294), .val (.int (1 : Int32)), .val (.int (0 : Int32)), .val (.long cc), .second, .val (.ref b343), .val (.int (0 : Int32)), .val (.int (0 : Int32)), .val (.int (0 : Int32)), .val (.int (0 : Int32)), .val (.int (0 : Int32))] [])) (fun t k => XS.icmpNo X351.here hx rfl (hb hby at_140) rfl (teq (by decide : (0 : Int32) = (0 : Int32))).2 k) ?_
        refine own_go (B := T351.setTop (mkF m 145 #[.val (.long p1), .second, .val (.int p2), .val (.long p3), .second, .val (.long p4), .second, .val (.ref r_294), .val (.int (1 : Int32)), .val (.int (0 : Int32)), .val (.long cc), .second, .val (.ref b343), .val (.int (0 : Int32)), .val (.int (0 : Int32)), .val (.int (0 : Int32)), .val (.int (0 : Int32)), .val (.int (0 : Int32))] [(.int (0 : Int32))])) (fun t k => XS.iload X351.here hx rfl (hb hby at_143) rfl k) ?_
        refine own_go (B := T351.setTop (mkF m 147 #[.val (.long p1), .second, .val (.int p2), .val (.long p3), .second, .val (.long p4), .second, .val (.ref r_294), .val (.int (1 : Int32)), .val (.int (0 : Int32)), .val (.long cc), .second, .val (.ref b343), .val (.int (0 : Int32)), .val (.int (0 : Int32)), .val (.int (0 : Int32)), .val (.int (0 : Int32)), .val (.int (0 : Int32))] [(.int (0 : Int32)), (.int (0 : Int32))])) (fun t k => XS.iload X351.here hx rfl (hb hby at_145) rfl k) ?_
        refine own_go (B := T351.setTop (mkF m 150 #[.val (.long p1), .second, .val (.int p2), .val (.long p3), .second, .val (.long p4), .second, .val (.ref r_294), .val (.int (1 : Int32)), .val (.int (0 : Int32)), .val (.long cc), .second, .val (.ref b343), .val (.int (0 : Int32)), .val (.int (0 : Int32)), .val (.int (0 : Int32)), .val (.int (0 : Int32)), .val (.int (0 : Int32))] [])) (fun t k => XS.icmpNo X351.here hx rfl (hb hby at_147) rfl (teq (by decide : (0 : Int32) = (0 : Int32))).2 k) ?_
        refine own_go (B := T351.setTop (mkF m 152 #[.val (.long p1), .second, .val (.int p2), .val (.long p3), .second, .val (.long p4), .second, .val (.ref r_294), .val (.int (1 : Int32)), .val (.int (0 : Int32)), .val (.long cc), .second, .val (.ref b343), .val (.int (0 : Int32)), .val (.int (0 : Int32)), .val (.int (0 : Int32)), .val (.int (0 : Int32)), .val (.int (0 : Int32))] [(.int (0 : Int32))])) (fun t k => XS.iload X351.here hx rfl (hb hby at_150) rfl k) ?_
        refine own_go (B := T351.setTop (mkF m 155 #[.val (.long p1), .second, .val (.int p2), .val (.long p3), .second, .val (.long p4), .second, .val (.ref r_294), .val (.int (1 : Int32)), .val (.int (0 : Int32)), .val (.long cc), .second, .val (.ref b343), .val (.int (0 : Int32)), .val (.int (0 : Int32)), .val (.int (0 : Int32)), .val (.int (0 : Int32)), .val (.int (0 : Int32))] [])) (fun t k => XS.ifNo X351.here hx rfl (hb hby at_152) rfl ((if0 _ _).trans (teq (by decide : (0 : Int32) = (0 : Int32))).2) k) ?_
        refine own_go (B := T351.setTop (mkF m 157 #[.val (.long p1), .second, .val (.int p2), .val (.long p3), .second, .val (.long p4), .second, .val (.ref r_294), .val (.int (1 : Int32)), .val (.int (0 : Int32)), .val (.long cc), .second, .val (.ref b343), .val (.int (0 : Int32)), .val (.int (0 : Int32)), .val (.int (0 : Int32)), .val (.int (0 : Int32)), .val (.int (0 : Int32))] [(.int (0 : Int32))])) (fun t k => XS.iload X351.here hx rfl (hb hby at_155) rfl k) ?_
        refine own_go (B := T351.setTop (mkF m 159 #[.val (.long p1), .second, .val (.int p2), .val (.long p3), .second, .val (.long p4), .second, .val (.ref r_294), .val (.int (1 : Int32)), .val (.int (0 : Int32)), .val (.long cc), .second, .val (.ref b343), .val (.int (0 : Int32)), .val (.int (0 : Int32)), .val (.int (0 : Int32)), .val (.int (0 : Int32)), .val (.int (0 : Int32))] [(.int (0 : Int32)), (.int (0 : Int32))])) (fun t k => XS.iload X351.here hx rfl (hb hby at_157) rfl k) ?_
        refine own_go (B := T351.setTop (mkF m 162 #[.val (.long p1), .second, .val (.int p2), .val (.long p3), .second, .val (.long p4), .second, .val (.ref r_294), .val (.int (1 : Int32)), .val (.int (0 : Int32)), .val (.long cc), .second, .val (.ref b343), .val (.int (0 : Int32)), .val (.int (0 : Int32)), .val (.int (0 : Int32)), .val (.int (0 : Int32)), .val (.int (0 : Int32))] [])) (fun t k => XS.icmpNo X351.here hx rfl (hb hby at_159) rfl (teq (by decide : (0 : Int32) = (0 : Int32))).2 k) ?_
        refine own_go (B := T351.setTop (mkF m 163 #[.val (.long p1), .second, .val (.int p2), .val (.long p3), .second, .val (.long p4), .second, .val (.ref r_294), .val (.int (1 : Int32)), .val (.int (0 : Int32)), .val (.long cc), .second, .val (.ref b343), .val (.int (0 : Int32)), .val (.int (0 : Int32)), .val (.int (0 : Int32)), .val (.int (0 : Int32)), .val (.int (0 : Int32))] [(.int (1 : Int32))])) (fun t k => XS.iconst X351.here hx rfl (hb hby at_162) k) ?_
        refine own_go (B := T351.setTop (mkF m 167 #[.val (.long p1), .second, .val (.int p2), .val (.long p3), .second, .val (.long p4), .second, .val (.ref r_294), .val (.int (1 : Int32)), .val (.int (0 : Int32)), .val (.long cc), .second, .val (.ref b343), .val (.int (0 : Int32)), .val (.int (0 : Int32)), .val (.int (0 : Int32)), .val (.int (0 : Int32)), .val (.int (0 : Int32))] [(.int (1 : Int32))])) (fun t k => XS.goto X351.here hx rfl (pc0 := 163) (pc' := 167) rfl (hb hby at_163) (by decide) (by decide) k) ?_
        obtain ⟨fs, hr, hrun, hended, hW, hsame⟩ := X351.leave (v := some (.int (1 : Int32))) (fun h => by rw [Bd.returns] at h; cases h)
        refine ⟨_, _, retN X351 hx (t := .boolean) Bd.returns (by simp) (hb hby at_167) hr, hK _ _ ⟨hrun, hended, _, _, rfl, ?_, ⟨_, rfl⟩, hW, hsame.mono (by decide) (by decide)⟩⟩
        show own_Q_law Z p1 p2 p3 p4 w_REPEATABLE_READ w_READ_UNCOMMITTED w_READ_COMMITTED w_SERIALIZABLE w_DEF h0 n0 _ T351.heap _
        rw [eh351]
        exact ⟨rfl, N351⟩
      by_cases hc46_357 : c0 = (0 : Int64)
      · refine own_go (B := T294.setTop (mkF m 49 #[.val (.long p1), .second, .val (.int p2), .val (.long p3), .second, .val (.long p4), .second, .val (.ref r_294), .val (.int (1 : Int32)), .val (.int (0 : Int32)), .val (.long c0), .second, .unset, .unset, .unset, .unset, .unset, .unset] [])) (fun t k => XS.ifNo X294.here hx rfl (hb hby at_46) rfl ((if0 _ _).trans (teq ((lw_eq c0 (0 : Int64)).mpr hc46_357)).2) k) ?_
        refine own_go (B := T294.setTop (mkF m 50 #[.val (.long p1), .second, .val (.int p2), .val (.long p3), .second, .val (.long p4), .second, .val (.ref r_294), .val (.int (1 : Int32)), .val (.int (0 : Int32)), .val (.long c0), .second, .unset, .unset, .unset, .unset, .unset, .unset] [(.long (1 : Int64))])) (fun t k => XS.lconst X294.here hx rfl (hb hby at_49) k) ?_
        refine own_go (B := T294.setTop (mkF m 52 #[.val (.long p1), .second, .val (.int p2), .val (.long p3), .second, .val (.long p4), .second, .val (.ref r_294), .val (.int (1 : Int32)), .val (.int (0 : Int32)), .val (.long (1 : Int64)), .second, .unset, .unset, .unset, .unset, .unset, .unset] [])) (fun t k => XS.lstore X294.here hx rfl (hb hby at_50) rfl (l' := #[.val (.long p1), .second, .val (.int p2), .val (.long p3), .second, .val (.long p4), .second, .val (.ref r_294), .val (.int (1 : Int32)), .val (.int (0 : Int32)), .val (.long (1 : Int64)), .second, .unset, .unset, .unset, .unset, .unset, .unset]) rfl k) ?_
        exact J342 _ _ X294 N294 eh294 (1 : Int64) (by decide)
      · refine own_go (B := T294.setTop (mkF m 52 #[.val (.long p1), .second, .val (.int p2), .val (.long p3), .second, .val (.long p4), .second, .val (.ref r_294), .val (.int (1 : Int32)), .val (.int (0 : Int32)), .val (.long c0), .second, .unset, .unset, .unset, .unset, .unset, .unset] [])) (fun t k => XS.ifYes X294.here hx rfl (pc0 := 46) (pc' := 52) rfl (hb hby at_46) rfl ((if0 _ _).trans (feq (fun q => hc46_357 ((lw_eq c0 (0 : Int64)).mp q))).2) (by decide) (by decide) k) ?_
        exact J342 _ _ X294 N294 eh294 c0 (by rw [hc0]; exact own_c1 p3 (by rw [← hc0]; exact hc46_357))
    · refine own_go (B := T294.setTop (mkF m 28 #[.val (.long p1), .second, .val (.int p2), .val (.long p3), .second, .val (.long p4), .second, .val (.ref r_294), .val (.int (1 : Int32)), .unset, .unset, .unset, .unset, .unset, .unset, .unset, .unset, .unset] [])) (fun t k => XS.ifNo X294.here hx rfl (hb hby at_25) rfl ((if0 _ _).trans (feq hc25_341).1) k) ?_
      refine own_go (B := T294.setTop (mkF m 29 #[.val (.long p1), .second, .val (.int p2), .val (.long p3), .second, .val (.long p4), .second, .val (.ref r_294), .val (.int (1 : Int32)), .unset, .unset, .unset, .unset, .unset, .unset, .unset, .unset, .unset] [(.int (1 : Int32))])) (fun t k => XS.iconst X294.here hx rfl (hb hby at_28) k) ?_
      refine own_go (B := T294.setTop (mkF m 33 #[.val (.long p1), .second, .val (.int p2), .val (.long p3), .second, .val (.long p4), .second, .val (.ref r_294), .val (.int (1 : Int32)), .unset, .unset, .unset, .unset, .unset, .unset, .unset, .unset, .unset] [(.int (1 : Int32))])) (fun t k => XS.goto X294.here hx rfl (pc0 := 29) (pc' := 33) rfl (hb hby at_29) (by decide) (by decide) k) ?_
      refine own_go (B := T294.setTop (mkF m 35 #[.val (.long p1), .second, .val (.int p2), .val (.long p3), .second, .val (.long p4), .second, .val (.ref r_294), .val (.int (1 : Int32)), .val (.int (1 : Int32)), .unset, .unset, .unset, .unset, .unset, .unset, .unset, .unset] [])) (fun t k => XS.istore X294.here hx rfl (hb hby at_33) rfl (l' := #[.val (.long p1), .second, .val (.int p2), .val (.long p3), .second, .val (.long p4), .second, .val (.ref r_294), .val (.int (1 : Int32)), .val (.int (1 : Int32)), .unset, .unset, .unset, .unset, .unset, .unset, .unset, .unset]) rfl k) ?_
      refine own_go (B := T294.setTop (mkF m 36 #[.val (.long p1), .second, .val (.int p2), .val (.long p3), .second, .val (.long p4), .second, .val (.ref r_294), .val (.int (1 : Int32)), .val (.int (1 : Int32)), .unset, .unset, .unset, .unset, .unset, .unset, .unset, .unset] [(.long p3)])) (fun t k => XS.lloadN X294.here hx rfl (hb hby at_35) rfl k) ?_
      refine own_go (B := T294.setTop (mkF m 39 #[.val (.long p1), .second, .val (.int p2), .val (.long p3), .second, .val (.long p4), .second, .val (.ref r_294), .val (.int (1 : Int32)), .val (.int (1 : Int32)), .unset, .unset, .unset, .unset, .unset, .unset, .unset, .unset] [(.long (9223372036854775807 : Int64)), (.long p3)])) (fun t k => X294.ldc2Long hx hown (mvT hZ (hw _ (List.mem_of_getElem? (i := 7) rfl))) (g := (mkF m 36 #[.val (.long p1), .second, .val (.int p2), .val (.long p3), .second, .val (.long p4), .second, .val (.ref r_294), .val (.int (1 : Int32)), .val (.int (1 : Int32)), .unset, .unset, .unset, .unset, .unset, .unset, .unset, .unset] [(.long p3)])) rfl (hb hby at_36) _ k) ?_
      refine own_go (B := T294.setTop (mkF m 40 #[.val (.long p1), .second, .val (.int p2), .val (.long p3), .second, .val (.long p4), .second, .val (.ref r_294), .val (.int (1 : Int32)), .val (.int (1 : Int32)), .unset, .unset, .unset, .unset, .unset, .unset, .unset, .unset] [(.long (p3 &&& (9223372036854775807 : Int64)))])) (fun t k => XS.land X294.here hx rfl (hb hby at_39) rfl k) ?_
      refine own_go (B := T294.setTop (mkF m 42 #[.val (.long p1), .second, .val (.int p2), .val (.long p3), .second, .val (.long p4), .second, .val (.ref r_294), .val (.int (1 : Int32)), .val (.int (1 : Int32)), .val (.long (p3 &&& (9223372036854775807 : Int64))), .second, .unset, .unset, .unset, .unset, .unset, .unset] [])) (fun t k => XS.lstore X294.here hx rfl (hb hby at_40) rfl (l' := #[.val (.long p1), .second, .val (.int p2), .val (.long p3), .second, .val (.long p4), .second, .val (.ref r_294), .val (.int (1 : Int32)), .val (.int (1 : Int32)), .val (.long (p3 &&& (9223372036854775807 : Int64))), .second, .unset, .unset, .unset, .unset, .unset, .unset]) rfl k) ?_
      obtain ⟨c0, hc0⟩ : ∃ z, z = (p3 &&& (9223372036854775807 : Int64)) := ⟨_, rfl⟩
      rw [← hc0]
      refine own_go (B := T294.setTop (mkF m 44 #[.val (.long p1), .second, .val (.int p2), .val (.long p3), .second, .val (.long p4), .second, .val (.ref r_294), .val (.int (1 : Int32)), .val (.int (1 : Int32)), .val (.long c0), .second, .unset, .unset, .unset, .unset, .unset, .unset] [(.long c0)])) (fun t k => XS.lload X294.here hx rfl (hb hby at_42) rfl k) ?_
      refine own_go (B := T294.setTop (mkF m 45 #[.val (.long p1), .second, .val (.int p2), .val (.long p3), .second, .val (.long p4), .second, .val (.ref r_294), .val (.int (1 : Int32)), .val (.int (1 : Int32)), .val (.long c0), .second, .unset, .unset, .unset, .unset, .unset, .unset] [(.long (0 : Int64)), (.long c0)])) (fun t k => XS.lconst X294.here hx rfl (hb hby at_44) k) ?_
      refine own_go (B := T294.setTop (mkF m 46 #[.val (.long p1), .second, .val (.int p2), .val (.long p3), .second, .val (.long p4), .second, .val (.ref r_294), .val (.int (1 : Int32)), .val (.int (1 : Int32)), .val (.long c0), .second, .unset, .unset, .unset, .unset, .unset, .unset] [(.int (lcmpW c0 (0 : Int64)))])) (fun t k => XS.lcmp X294.here hx rfl (hb hby at_45) rfl k) ?_
      have J358 : ∀ (T358 : State) (lc358 : List Loc) (X358 : Stand p l e room_1 s m #[(.long p1), (.int p2), (.long p3), (.long p4)] below meth c T358 lc358 0 0) (N358 : Fr n0 lc358) (e358 : T358.heap = h0) (cc : Int64), (0 : Int64) < cc → own_Ends p.tables e below (T358.setTop (mkF m 52 #[.val (.long p1), .second, .val (.int p2), .val (.long p3), .second, .val (.long p4), .second, .val (.ref r_294), .val (.int (1 : Int32)), .val (.int (1 : Int32)), .val (.long cc), .second, .unset, .unset, .unset, .unset, .unset, .unset] [])) K := by
        intro T358 lc358 X358 N358 e358 cc hrel358
        obtain ⟨hz1, hz2, hz3⟩ := own_cs cc hrel358
        obtain ⟨T359, h359, X359, e359, E359, A359, D359, -, st359⟩ := newO X358 hx hZ hown (hw _ (List.mem_of_getElem? (i := 8) rfl)) (hw _ (List.mem_of_getElem? (i := 9) rfl)) (hw _ (List.mem_of_getElem? (i := 10) rfl)) e358 (g := (mkF m 52 #[.val (.long p1), .second, .val (.int p2), .val (.long p3), .second, .val (.long p4), .second, .val (.ref r_294), .val (.int (1 : Int32)), .val (.int (1 : Int32)), .val (.long cc), .second, .unset, .unset, .unset, .unset, .unset, .unset] [])) rfl (hb hby at_52) (by decide) (by decide)
        obtain ⟨b359, g359⟩ : ∃ z, z = h0.size := ⟨_, rfl⟩
        rw [← g359] at A359 D359 st359
        have g_b359 : n0 ≤ b359 := Nat.le_trans (own_n0 O0) (Nat.le_of_eq g359.symm)
        have O359 := O0.ext E359
        have F359_75 : Fld Z h359 b359 "com/example/interleave/interleave/engine/Transaction" "undo" "Lcom/example/interleave/interleave/engine/UndoLog;" .null := D359 (Or.inr (hw _ (List.mem_of_getElem? (i := 75) rfl))) (ty := (.object "com/example/interleave/interleave/engine/UndoLog")) (by decide)
        have F359_103 : Fld Z h359 b359 "com/example/interleave/interleave/engine/Transaction" "written" "Ljava/util/Map;" .null := D359 (Or.inr (hw _ (List.mem_of_getElem? (i := 103) rfl))) (ty := (.object "java/util/Map")) (by decide)
        have F359_106 : Fld Z h359 b359 "com/example/interleave/interleave/engine/Transaction" "snapshot" "J" (.long (0 : Int64)) := D359 (Or.inl (hw _ (List.mem_of_getElem? (i := 106) rfl))) (ty := .long) (by decide)
        have F359_108 : Fld Z h359 b359 "com/example/interleave/interleave/engine/Transaction" "commitNumber" "J" (.long (0 : Int64)) := D359 (Or.inl (hw _ (List.mem_of_getElem? (i := 108) rfl))) (ty := .long) (by decide)
        have F359_110 : Fld Z h359 b359 "com/example/interleave/interleave/engine/Transaction" "beginNumber" "J" (.long (0 : Int64)) := D359 (Or.inr (hw _ (List.mem_of_getElem? (i := 110) rfl))) (ty := .long) (by decide)
        have F359_112 : Fld Z h359 b359 "com/example/interleave/interleave/engine/Transaction" "level" "Lcom/example/interleave/interleave/sql/IsolationLevel;" .null := D359 (Or.inr (hw _ (List.mem_of_getElem? (i := 112) rfl))) (ty := (.object "com/example/interleave/interleave/sql/IsolationLevel")) (by decide)
        have F359_114 : Fld Z h359 b359 "com/example/interleave/interleave/engine/Transaction" "autocommit" "Z" (.int (0 : Int32)) := D359 (Or.inr (hw _ (List.mem_of_getElem? (i := 114) rfl))) (ty := .boolean) (by decide)
        refine own_go (B := T359.setTop (mkF m 55 #[.val (.long p1), .second, .val (.int p2), .val (.long p3), .second, .val (.long p4), .second, .val (.ref r_294), .val (.int (1 : Int32)), .val (.int (1 : Int32)), .val (.long cc), .second, .unset, .unset, .unset, .unset, .unset, .unset] [(.ref b359)])) (fun t k => st359 _ k) ?_
        refine own_go (B := T359.setTop (mkF m 56 #[.val (.long p1), .second, .val (.int p2), .val (.long p3), .second, .val (.long p4), .second, .val (.ref r_294), .val (.int (1 : Int32)), .val (.int (1 : Int32)), .val (.long cc), .second, .unset, .unset, .unset, .unset, .unset, .unset] [(.ref b359), (.ref b359)])) (fun t k => XS.dup X359.here hx rfl (hb hby at_55) rfl rfl k) ?_
        refine own_go (B := T359.setTop (mkF m 57 #[.val (.long p1), .second, .val (.int p2), .val (.long p3), .second, .val (.long p4), .second, .val (.ref r_294), .val (.int (1 : Int32)), .val (.int (1 : Int32)), .val (.long cc), .second, .unset, .unset, .unset, .unset, .unset, .unset] [(.long p1), (.ref b359), (.ref b359)])) (fun t k => XS.lloadN X359.here hx rfl (hb hby at_56) rfl k) ?_
        refine own_go (B := T359.setTop (mkF m 59 #[.val (.long p1), .second, .val (.int p2), .val (.long p3), .second, .val (.long p4), .second, .val (.ref r_294), .val (.int (1 : Int32)), .val (.int (1 : Int32)), .val (.long cc), .second, .unset, .unset, .unset, .unset, .unset, .unset] [(.ref r_294), (.long p1), (.ref b359), (.ref b359)])) (fun t k => XS.aload X359.here hx rfl (hb hby at_57) rfl rfl k) ?_
        refine own_go (B := T359.setTop (mkF m 61 #[.val (.long p1), .second, .val (.int p2), .val (.long p3), .second, .val (.long p4), .second, .val (.ref r_294), .val (.int (1 : Int32)), .val (.int (1 : Int32)), .val (.long cc), .second, .unset, .unset, .unset, .unset, .unset, .unset] [(.int (1 : Int32)), (.ref r_294), (.long p1), (.ref b359), (.ref b359)])) (fun t k => XS.iload X359.here hx rfl (hb hby at_59) rfl k) ?_
        have lt_b359_360 := A359.lt
        obtain ⟨_, _, ⟨T361, L361, k361, n361⟩, -, X361, ⟨Lc361, hQ361, l361, y361, z361⟩, st361⟩ := X359.specialBack hx (y := (⟨"com/example/interleave/interleave/engine/Transaction", "<init>", "(JLcom/example/interleave/interleave/sql/IsolationLevel;Z)V"⟩ : MethodName)) rfl hown (mvT hZ (hw _ (List.mem_of_getElem? (i := 11) rfl))) (mvT hZ (hw _ (List.mem_of_getElem? (i := 12) rfl))) (mvT hZ (hw _ (List.mem_of_getElem? (i := 13) rfl))) (by decide) (backOf (W := 1) (own_rm_tr1 l Z a0 hw [] b359 r_294 w_DEF p1 h359 n0 O359 S_DEF A359 g_b359 F359_75 F359_103 F359_106 F359_108 F359_110 F359_112 F359_114) hZ (hw _ (List.mem_of_getElem? (i := 13) rfl)) (hw _ (List.mem_of_getElem? (i := 10) rfl)) (by decide) (by decide)) (g := (mkF m 61 #[.val (.long p1), .second, .val (.int p2), .val (.long p3), .second, .val (.long p4), .second, .val (.ref r_294), .val (.int (1 : Int32)), .val (.int (1 : Int32)), .val (.long cc), .second, .unset, .unset, .unset, .unset, .unset, .unset] [(.int (1 : Int32)), (.ref r_294), (.long p1), (.ref b359), (.ref b359)])) rfl (by rw [hml]; rfl) (Steps.refl _) (a := b359) (argsL := [(.long p1), (.ref r_294), (.int (1 : Int32))]) (rest := [(.ref b359)]) (lenOf own_pd_4 rfl) rfl (by show 2 * 0 + _ ≤ _; exact Nat.le_of_eq rfl) (hb hby at_61) (fun _ _ => ⟨rfl, e359, (by decide : 1 + 5 ≤ _), (by decide : 8 + 21 ≤ _)⟩)
        dsimp only [Pt.U, Pt.locs, Pt.cells, Pt.slots] at X361 l361 y361 z361 st361 hQ361
        subst l361 y361 z361
        obtain ⟨un_361, wr_361, en_361, ch_361, rfl, N361q, Kc361, Q361_0, Q361_1, Q361_2, Q361_3, Q361_4, Q361_5, Q361_6, Q361_7, Q361_8, Q361_9, Q361_10, Q361_11, Q361_12, Q361_13, Q361_14, Q361_15, Q361_16, Q361_17, Q361_18, Q361_19, Q361_20, Q361_21⟩ := hQ361
        have O361 := O359.keep Kc361 (allS g_b359 all0)
        have N361 := Fr.app N358 N361q
        refine own_go (B := T361.setTop (mkF m 64 #[.val (.long p1), .second, .val (.int p2), .val (.long p3), .second, .val (.long p4), .second, .val (.ref r_294), .val (.int (1 : Int32)), .val (.int (1 : Int32)), .val (.long cc), .second, .unset, .unset, .unset, .unset, .unset, .unset] [(.ref b359)])) (fun t k => st361.trans k) ?_
        have g_un_361 : n0 ≤ un_361 := Nat.le_trans (own_n0 O359) Q361_0
        have g_wr_361 : n0 ≤ wr_361 := Nat.le_trans (own_n0 O359) Q361_1
        have g_en_361 : n0 ≤ en_361 := Nat.le_trans (own_n0 O359) Q361_2
        have g_ch_361 : n0 ≤ ch_361 := Nat.le_trans (own_n0 O359) Q361_3
        refine own_go (B := T361.setTop (mkF m 66 #[.val (.long p1), .second, .val (.int p2), .val (.long p3), .second, .val (.long p4), .second, .val (.ref r_294), .val (.int (1 : Int32)), .val (.int (1 : Int32)), .val (.long cc), .second, .val (.ref b359), .unset, .unset, .unset, .unset, .unset] [])) (fun t k => XS.astore X361.here hx rfl (hb hby at_64) rfl rfl (l' := #[.val (.long p1), .second, .val (.int p2), .val (.long p3), .second, .val (.long p4), .second, .val (.ref r_294), .val (.int (1 : Int32)), .val (.int (1 : Int32)), .val (.long cc), .second, .val (.ref b359), .unset, .unset, .unset, .unset, .unset]) rfl k) ?_
        refine own_go (B := T361.setTop (mkF m 68 #[.val (.long p1), .second, .val (.int p2), .val (.long p3), .second, .val (.long p4), .second, .val (.ref r_294), .val (.int (1 : Int32)), .val (.int (1 : Int32)), .val (.long cc), .second, .val (.ref b359), .unset, .unset, .unset, .unset, .unset] [(.int (1 : Int32))])) (fun t k => XS.iload X361.here hx rfl (hb hby at_66) rfl k) ?_
        refine own_go (B := T361.setTop (mkF m 71 #[.val (.long p1), .second, .val (.int p2), .val (.long p3), .second, .val (.long p4), .second, .val (.ref r_294), .val (.int (1 : Int32)), .val (.int (1 : Int32)), .val (.long cc), .second, .val (.ref b359), .unset, .unset, .unset, .unset, .unset] [])) (fun t k => XS.ifNo X361.here hx rfl (hb hby at_68) rfl ((if0 _ _).trans (feq (by decide : ¬ ((1 : Int32) = (0 : Int32)))).1) k) ?_
        refine own_go (B := T361.setTop (mkF m 73 #[.val (.long p1), .second, .val (.int p2), .val (.long p3), .second, .val (.long p4), .second, .val (.ref r_294), .val (.int (1 : Int32)), .val (.int (1 : Int32)), .val (.long cc), .second, .val (.ref b359), .unset, .unset, .unset, .unset, .unset] [(.ref b359)])) (fun t k => XS.aload X361.here hx rfl (hb hby at_71) rfl rfl k) ?_
        refine own_go (B := T361.setTop (mkF m 75 #[.val (.long p1), .second, .val (.int p2), .val (.long p3), .second, .val (.long p4), .second, .val (.ref r_294), .val (.int (1 : Int32)), .val (.int (1 : Int32)), .val (.long cc), .second, .val (.ref b359), .unset, .unset, .unset, .unset, .unset] [(.long cc), (.ref b359)])) (fun t k => XS.lload X361.here hx rfl (hb hby at_73) rfl k) ?_
        have lt_b359_363 := Q361_4.lt
        have lt_un_361_363 := Q361_8.lt
        have lt_en_361_363 := Q361_11.lt
        have lt_ch_361_363 := Q361_15.lt
        have lt_wr_361_363 := Q361_17.lt
        obtain ⟨cq364, kq364, q364a, q364b, q364c⟩ := isOf hZ (rfl : T361.heap = T361.heap) Q361_4
        obtain ⟨_, _, ⟨T364, L364, k364, n364⟩, -, X364, ⟨Lc364, hQ364, l364, y364, z364⟩, st364⟩ := X361.virtualBack hx (y := (⟨"com/example/interleave/interleave/engine/Transaction", "commit", "(J)V"⟩ : MethodName)) (z := (⟨"com/example/interleave/interleave/engine/Transaction", "commit", "(J)V"⟩ : MethodName)) hown (mvT hZ (hw _ (List.mem_of_getElem? (i := 122) rfl))) (mvT hZ (hw _ (List.mem_of_getElem? (i := 123) rfl))) (notFace_of_selects (args := #[]) (mvT hZ (hw _ (List.mem_of_getElem? (i := 125) rfl)))) (mvT hZ (hw _ (List.mem_of_getElem? (i := 125) rfl))) (mvT hZ (hw _ (List.mem_of_getElem? (i := 124) rfl))) (by decide) (backOf (W := 0) (own_rm_commit l Z a0 hw [] b359 un_361 wr_361 en_361 ch_361 w_DEF cc T361.heap n0 O361 Q361_4 Q361_5 Q361_6 Q361_7 Q361_8 Q361_9 Q361_10 Q361_11 Q361_12 Q361_13 Q361_14 Q361_15 Q361_16 Q361_17 Q361_18 Q361_19 Q361_20 Q361_21 g_b359 g_wr_361 g_en_361) hZ (hw _ (List.mem_of_getElem? (i := 126) rfl)) (hw _ (List.mem_of_getElem? (i := 10) rfl)) (by decide) (by decide)) q364a q364c (g := (mkF m 75 #[.val (.long p1), .second, .val (.int p2), .val (.long p3), .second, .val (.long p4), .second, .val (.ref r_294), .val (.int (1 : Int32)), .val (.int (1 : Int32)), .val (.long cc), .second, .val (.ref b359), .unset, .unset, .unset, .unset, .unset] [(.long cc), (.ref b359)])) rfl (by rw [hml]; rfl) (Steps.refl _) (argsL := [(.long cc)]) (rest := []) (lenOf own_pd_6 rfl) rfl (by show 2 * 0 + _ ≤ _; exact Nat.le_of_eq rfl) (hb hby at_75) (fun _ _ => ⟨rfl, (rfl : T361.heap = T361.heap), (by decide : 6 + 0 ≤ _), (by decide : 29 + 0 ≤ _)⟩)
        dsimp only [Pt.U, Pt.locs, Pt.cells, Pt.slots] at X364 l364 y364 z364 st364 hQ364
        subst l364 y364 z364
        obtain ⟨rfl, N364q, Kc364, Q364_0, Q364_1⟩ := hQ364
        have O364 := O361.keep Kc364 (allS g_b359 (allS g_en_361 (allS g_wr_361 all0)))
        have N364 := Fr.app N361 N364q
        refine own_go (B := T364.setTop (mkF m 78 #[.val (.long p1), .second, .val (.int p2), .val (.long p3), .second, .val (.long p4), .second, .val (.ref r_294), .val (.int (1 : Int32)), .val (.int (1 : Int32)), .val (.long cc), .second, .val (.ref b359), .unset, .unset, .unset, .unset, .unset] [])) (fun t k => st364.trans k) ?_
        refine own_go (B := T364.setTop (mkF m 79 #[.val (.long p1), .second, .val (.int p2), .val (.long p3), .second, .val (.long p4), .second, .val (.ref r_294), .val (.int (1 : Int32)), .val (.int (1 : Int32)), .val (.long cc), .second, .val (.ref b359), .unset, .unset, .unset, .unset, .unset] [(.int (0 : Int32))])) (fun t k => XS.iconst X364.here hx rfl (hb hby at_78) k) ?_
        refine own_go (B := T364.setTop (mkF m 81 #[.val (.long p1), .second, .val (.int p2), .val (.long p3), .second, .val (.long p4), .second, .val (.ref r_294), .val (.int (1 : Int32)), .val (.int (1 : Int32)), .val (.long cc), .second, .val (.ref b359), .val (.int (0 : Int32)), .unset, .unset, .unset, .unset] [])) (fun t k => XS.istore X364.here hx rfl (hb hby at_79) rfl (l' := #[.val (.long p1), .second, .val (.int p2), .val (.long p3), .second, .val (.long p4), .second, .val (.ref r_294), .val (.int (1 : Int32)), .val (.int (1 : Int32)), .val (.long cc), .second, .val (.ref b359), .val (.int (0 : Int32)), .unset, .unset, .unset, .unset]) rfl k) ?_
        refine own_go (B := T364.setTop (mkF m 83 #[.val (.long p1), .second, .val (.int p2), .val (.long p3), .second, .val (.long p4), .second, .val (.ref r_294), .val (.int (1 : Int32)), .val (.int (1 : Int32)), .val (.long cc), .second, .val (.ref b359), .val (.int (0 : Int32)), .unset, .unset, .unset, .unset] [(.int (1 : Int32))])) (fun t k => XS.iload X364.here hx rfl (hb hby at_81) rfl k) ?_
        refine own_go (B := T364.setTop (mkF m 86 #[.val (.long p1), .second, .val (.int p2), .val (.long p3), .second, .val (.long p4), .second, .val (.ref r_294), .val (.int (1 : Int32)), .val (.int (1 : Int32)), .val (.long cc), .second, .val (.ref b359), .val (.int (0 : Int32)), .unset, .unset, .unset, .unset] [])) (fun t k => XS.ifNo X364.here hx rfl (hb hby at_83) rfl ((if0 _ _).trans (feq (by decide : ¬ ((1 : Int32) = (0 : Int32)))).1) k) ?_
        refine own_go (B := T364.setTop (mkF m 88 #[.val (.long p1), .second, .val (.int p2), .val (.long p3), .second, .val (.long p4), .second, .val (.ref r_294), .val (.int (1 : Int32)), .val (.int (1 : Int32)), .val (.long cc), .second, .val (.ref b359), .val (.int (0 : Int32)), .unset, .unset, .unset, .unset] [(.long p4)])) (fun t k => XS.lload X364.here hx rfl (hb hby at_86) rfl k) ?_
        refine own_go (B := T364.setTop (mkF m 90 #[.val (.long p1), .second, .val (.int p2), .val (.long p3), .second, .val (.long p4), .second, .val (.ref r_294), .val (.int (1 : Int32)), .val (.int (1 : Int32)), .val (.long cc), .second, .val (.ref b359), .val (.int (0 : Int32)), .unset, .unset, .unset, .unset] [(.long cc), (.long p4)])) (fun t k => XS.lload X364.here hx rfl (hb hby at_88) rfl k) ?_
        refine own_go (B := T364.setTop (mkF m 91 #[.val (.long p1), .second, .val (.int p2), .val (.long p3), .second, .val (.long p4), .second, .val (.ref r_294), .val (.int (1 : Int32)), .val (.int (1 : Int32)), .val (.long cc), .second, .val (.ref b359), .val (.int (0 : Int32)), .unset, .unset, .unset, .unset] [(.int (lcmpW p4 cc))])) (fun t k => XS.lcmp X364.here hx rfl (hb hby at_90) rfl k) ?_
        by_cases hc91_366 : p4 < cc
        · refine own_go (B := T364.setTop (mkF m 97 #[.val (.long p1), .second, .val (.int p2), .val (.long p3), .second, .val (.long p4), .second, .val (.ref r_294), .val (.int (1 : Int32)), .val (.int (1 : Int32)), .val (.long cc), .second, .val (.ref b359), .val (.int (0 : Int32)), .unset, .unset, .unset, .unset] [])) (fun t k => XS.ifYes X364.here hx rfl (pc0 := 91) (pc' := 97) rfl (hb hby at_91) rfl ((if0 _ _).trans (tlt ((lw_lt p4 cc).mpr hc91_366)).1) (by decide) (by decide) k) ?_
          refine own_go (B := T364.setTop (mkF m 99 #[.val (.long p1), .second, .val (.int p2), .val (.long p3), .second, .val (.long p4), .second, .val (.ref r_294), .val (.int (1 : Int32)), .val (.int (1 : Int32)), .val (.long cc), .second, .val (.ref b359), .val (.int (0 : Int32)), .unset, .unset, .unset, .unset] [(.ref b359)])) (fun t k => XS.aload X364.here hx rfl (hb hby at_97) rfl rfl k) ?_
          refine own_go (B := T364.setTop (mkF m 101 #[.val (.long p1), .second, .val (.int p2), .val (.long p3), .second, .val (.long p4), .second, .val (.ref r_294), .val (.int (1 : Int32)), .val (.int (1 : Int32)), .val (.long cc), .second, .val (.ref b359), .val (.int (0 : Int32)), .unset, .unset, .unset, .unset] [(.long p4), (.ref b359)])) (fun t k => XS.lload X364.here hx rfl (hb hby at_99) rfl k) ?_
          obtain ⟨cq367, kq367, q367a, q367b, q367c⟩ := isOf hZ (rfl : T364.heap = T364.heap) Q364_0
          obtain ⟨_, _, ⟨T367, L367, k367, n367⟩, -, X367, ⟨Lc367, hQ367, l367, y367, z367⟩, st367⟩ := X364.virtualBack hx (y := (⟨"com/example/interleave/interleave/engine/Transaction", "committedBy", "(J)Z"⟩ : MethodName)) (z := (⟨"com/example/interleave/interleave/engine/Transaction", "committedBy", "(J)Z"⟩ : MethodName)) hown (mvT hZ (hw _ (List.mem_of_getElem? (i := 115) rfl))) (mvT hZ (hw _ (List.mem_of_getElem? (i := 116) rfl))) (notFace_of_selects (args := #[]) (mvT hZ (hw _ (List.mem_of_getElem? (i := 118) rfl)))) (mvT hZ (hw _ (List.mem_of_getElem? (i := 118) rfl))) (mvT hZ (hw _ (List.mem_of_getElem? (i := 117) rfl))) (by decide) (backOf (W := 0) (own_rm_cby l Z a0 hw [] b359 p4 cc (0 : Int32) T364.heap n0 O364 Q364_1 (by simp [hz1, hc91_366])) hZ (hw _ (List.mem_of_getElem? (i := 119) rfl)) (hw _ (List.mem_of_getElem? (i := 10) rfl)) (by decide) (by decide)) q367a q367c (g := (mkF m 101 #[.val (.long p1), .second, .val (.int p2), .val (.long p3), .second, .val (.long p4), .second, .val (.ref r_294), .val (.int (1 : Int32)), .val (.int (1 : Int32)), .val (.long cc), .second, .val (.ref b359), .val (.int (0 : Int32)), .unset, .unset, .unset, .unset] [(.long p4), (.ref b359)])) rfl (by rw [hml]; rfl) (Steps.refl _) (argsL := [(.long p4)]) (rest := []) (lenOf own_pd_5 rfl) rfl (by show 2 * 0 + _ ≤ _; exact Nat.le_of_eq rfl) (hb hby at_101) (fun _ _ => ⟨rfl, (rfl : T364.heap = T364.heap), (by decide : 6 + 0 ≤ _), (by decide : 29 + 0 ≤ _)⟩)
          dsimp only [Pt.U, Pt.locs, Pt.cells, Pt.slots] at X367 l367 y367 z367 st367 hQ367
          subst l367 y367 z367
          obtain ⟨rfl, N367q, eh367⟩ := hQ367
          have N367 := Fr.app N364 N367q
          refine own_go (B := T367.setTop (mkF m 104 #[.val (.long p1), .second, .val (.int p2), .val (.long p3), .second, .val (.long p4), .second, .val (.ref r_294), .val (.int (1 : Int32)), .val (.int (1 : Int32)), .val (.long cc), .second, .val (.ref b359), .val (.int (0 : Int32)), .unset, .unset, .unset, .unset] [(.int (0 : Int32))])) (fun t k => st367.trans k) ?_
          refine own_go (B := T367.setTop (mkF m 106 #[.val (.long p1), .second, .val (.int p2), .val (.long p3), .second, .val (.long p4), .second, .val (.ref r_294), .val (.int (1 : Int32)), .val (.int (1 : Int32)), .val (.long cc), .second, .val (.ref b359), .val (.int (0 : Int32)), .val (.int (0 : Int32)), .unset, .unset, .unset] [])) (fun t k => XS.istore X367.here hx rfl (hb hby at_104) rfl (l' := #[.val (.long p1), .second, .val (.int p2), .val (.long p3), .second, .val (.long p4), .second, .val (.ref r_294), .val (.int (1 : Int32)), .val (.int (1 : Int32)), .val (.long cc), .second, .val (.ref b359), .val (.int (0 : Int32)), .val (.int (0 : Int32)), .unset, .unset, .unset]) rfl k) ?_
          refine own_go (B := T367.setTop (mkF m 108 #[.val (.long p1), .second, .val (.int p2), .val (.long p3), .second, .val (.long p4), .second, .val (.ref r_294), .val (.int (1 : Int32)), .val (.int (1 : Int32)), .val (.long cc), .second, .val (.ref b359), .val (.int (0 : Int32)), .val (.int (0 : Int32)), .unset, .unset, .unset] [(.ref b359)])) (fun t k => XS.aload X367.here hx rfl (hb hby at_106) rfl rfl k) ?_
          refine own_go (B := T367.setTop (mkF m 110 #[.val (.long p1), .second, .val (.int p2), .val (.long p3), .second, .val (.long p4), .second, .val (.ref r_294), .val (.int (1 : Int32)), .val (.int (1 : Int32)), .val (.long cc), .second, .val (.ref b359), .val (.int (0 : Int32)), .val (.int (0 : Int32)), .unset, .unset, .unset] [(.long cc), (.ref b359)])) (fun t k => XS.lload X367.here hx rfl (hb hby at_108) rfl k) ?_
          obtain ⟨cq368, kq368, q368a, q368b, q368c⟩ := isOf hZ eh367 Q364_0
          obtain ⟨_, _, ⟨T368, L368, k368, n368⟩, -, X368, ⟨Lc368, hQ368, l368, y368, z368⟩, st368⟩ := X367.virtualBack hx (y := (⟨"com/example/interleave/interleave/engine/Transaction", "committedBy", "(J)Z"⟩ : MethodName)) (z := (⟨"com/example/interleave/interleave/engine/Transaction", "committedBy", "(J)Z"⟩ : MethodName)) hown (mvT hZ (hw _ (List.mem_of_getElem? (i := 115) rfl))) (mvT hZ (hw _ (List.mem_of_getElem? (i := 116) rfl))) (notFace_of_selects (args := #[]) (mvT hZ (hw _ (List.mem_of_getElem? (i := 118) rfl)))) (mvT hZ (hw _ (List.mem_of_getElem? (i := 118) rfl))) (mvT hZ (hw _ (List.mem_of_getElem? (i := 117) rfl))) (by decide) (backOf (W := 0) (own_rm_cby l Z a0 hw [] b359 cc cc (1 : Int32) T364.heap n0 O364 Q364_1 (by simp [hz1, (own_irr cc)])) hZ (hw _ (List.mem_of_getElem? (i := 119) rfl)) (hw _ (List.mem_of_getElem? (i := 10) rfl)) (by decide) (by decide)) q368a q368c (g := (mkF m 110 #[.val (.long p1), .second, .val (.int p2), .val (.long p3), .second, .val (.long p4), .second, .val (.ref r_294), .val (.int (1 : Int32)), .val (.int (1 : Int32)), .val (.long cc), .second, .val (.ref b359), .val (.int (0 : Int32)), .val (.int (0 : Int32)), .unset, .unset, .unset] [(.long cc), (.ref b359)])) rfl (by rw [hml]; rfl) (Steps.refl _) (argsL := [(.long cc)]) (rest := []) (lenOf own_pd_5 rfl) rfl (by show 2 * 0 + _ ≤ _; exact Nat.le_of_eq rfl) (hb hby at_110) (fun _ _ => ⟨rfl, eh367, (by decide : 6 + 0 ≤ _), (by decide : 29 + 0 ≤ _)⟩)
          dsimp only [Pt.U, Pt.locs, Pt.cells, Pt.slots] at X368 l368 y368 z368 st368 hQ368
          subst l368 y368 z368
          obtain ⟨rfl, N368q, eh368⟩ := hQ368
          have N368 := Fr.app N367 N368q
          refine own_go (B := T368.setTop (mkF m 113 #[.val (.long p1), .second, .val (.int p2), .val (.long p3), .second, .val (.long p4), .second, .val (.ref r_294), .val (.int (1 : Int32)), .val (.int (1 : Int32)), .val (.long cc), .second, .val (.ref b359), .val (.int (0 : Int32)), .val (.int (0 : Int32)), .unset, .unset, .unset] [(.int (1 : Int32))])) (fun t k => st368.trans k) ?_
          refine own_go (B := T368.setTop (mkF m 115 #[.val (.long p1), .second, .val (.int p2), .val (.long p3), .second, .val (.long p4), .second, .val (.ref r_294), .val (.int (1 : Int32)), .val (.int (1 : Int32)), .val (.long cc), .second, .val (.ref b359), .val (.int (0 : Int32)), .val (.int (0 : Int32)), .val (.int (1 : Int32)), .unset, .unset] [])) (fun t k => XS.istore X368.here hx rfl (hb hby at_113) rfl (l' := #[.val (.long p1), .second, .val (.int p2), .val (.long p3), .second, .val (.long p4), .second, .val (.ref r_294), .val (.int (1 : Int32)), .val (.int (1 : Int32)), .val (.long cc), .second, .val (.ref b359), .val (.int (0 : Int32)), .val (.int (0 : Int32)), .val (.int (1 : Int32)), .unset, .unset]) rfl k) ?_
          refine own_go (B := T368.setTop (mkF m 117 #[.val (.long p1), .second, .val (.int p2), .val (.long p3), .second, .val (.long p4), .second, .val (.ref r_294), .val (.int (1 : Int32)), .val (.int (1 : Int32)), .val (.long cc), .second, .val (.ref b359), .val (.int (0 : Int32)), .val (.int (0 : Int32)), .val (.int (1 : Int32)), .unset, .unset] [(.ref b359)])) (fun t k => XS.aload X368.here hx rfl (hb hby at_115) rfl rfl k) ?_
          refine own_go (B := T368.setTop (mkF m 119 #[.val (.long p1), .second, .val (.int p2), .val (.long p3), .second, .val (.long p4), .second, .val (.ref r_294), .val (.int (1 : Int32)), .val (.int (1 : Int32)), .val (.long cc), .second, .val (.ref b359), .val (.int (0 : Int32)), .val (.int (0 : Int32)), .val (.int (1 : Int32)), .unset, .unset] [(.long cc), (.ref b359)])) (fun t k => XS.lload X368.here hx rfl (hb hby at_117) rfl k) ?_
          refine own_go (B := T368.setTop (mkF m 120 #[.val (.long p1), .second, .val (.int p2), .val (.long p3), .second, .val (.long p4), .second, .val (.ref r_294), .val (.int (1 : Int32)), .val (.int (1 : Int32)), .val (.long cc), .second, .val (.ref b359), .val (.int (0 : Int32)), .val (.int (0 : Int32)), .val (.int (1 : Int32)), .unset, .unset] [(.long (1 : Int64)), (.long cc), (.ref b359)])) (fun t k => XS.lconst X368.here hx rfl (hb hby at_119) k) ?_
          refine own_go (B := T368.setTop (mkF m 121 #[.val (.long p1), .second, .val (.int p2), .val (.long p3), .second, .val (.long p4), .second, .val (.ref r_294), .val (.int (1 : Int32)), .val (.int (1 : Int32)), .val (.long cc), .second, .val (.ref b359), .val (.int (0 : Int32)), .val (.int (0 : Int32)), .val (.int (1 : Int32)), .unset, .unset] [(.long (cc - (1 : Int64))), (.ref b359)])) (fun t k => XS.lsub X368.here hx rfl (hb hby at_120) rfl k) ?_
          obtain ⟨cq369, kq369, q369a, q369b, q369c⟩ := isOf hZ eh368 Q364_0
          obtain ⟨_, _, ⟨T369, L369, k369, n369⟩, -, X369, ⟨Lc369, hQ369, l369, y369, z369⟩, st369⟩ := X368.virtualBack hx (y := (⟨"com/example/interleave/interleave/engine/Transaction", "committedBy", "(J)Z"⟩ : MethodName)) (z := (⟨"com/example/interleave/interleave/engine/Transaction", "committedBy", "(J)Z"⟩ : MethodName)) hown (mvT hZ (hw _ (List.mem_of_getElem? (i := 115) rfl))) (mvT hZ (hw _ (List.mem_of_getElem? (i := 116) rfl))) (notFace_of_selects (args := #[]) (mvT hZ (hw _ (List.mem_of_getElem? (i := 118) rfl)))) (mvT hZ (hw _ (List.mem_of_getElem? (i := 118) rfl))) (mvT hZ (hw _ (List.mem_of_getElem? (i := 117) rfl))) (by decide) (backOf (W := 0) (own_rm_cby l Z a0 hw [] b359 (cc - (1 : Int64)) cc (0 : Int32) T364.heap n0 O364 Q364_1 (by simp [hz1, hz2])) hZ (hw _ (List.mem_of_getElem? (i := 119) rfl)) (hw _ (List.mem_of_getElem? (i := 10) rfl)) (by decide) (by decide)) q369a q369c (g := (mkF m 121 #[.val (.long p1), .second, .val (.int p2), .val (.long p3), .second, .val (.long p4), .second, .val (.ref r_294), .val (.int (1 : Int32)), .val (.int (1 : Int32)), .val (.long cc), .second, .val (.ref b359), .val (.int (0 : Int32)), .val (.int (0 : Int32)), .val (.int (1 : Int32)), .unset, .unset] [(.long (cc - (1 : Int64))), (.ref b359)])) rfl (by rw [hml]; rfl) (Steps.refl _) (argsL := [(.long (cc - (1 : Int64)))]) (rest := []) (lenOf own_pd_5 rfl) rfl (by show 2 * 0 + _ ≤ _; exact Nat.le_of_eq rfl) (hb hby at_121) (fun _ _ => ⟨rfl, eh368, (by decide : 6 + 0 ≤ _), (by decide : 29 + 0 ≤ _)⟩)
          dsimp only [Pt.U, Pt.locs, Pt.cells, Pt.slots] at X369 l369 y369 z369 st369 hQ369
          subst l369 y369 z369
          obtain ⟨rfl, N369q, eh369⟩ := hQ369
          have N369 := Fr.app N368 N369q
          refine own_go (B := T369.setTop (mkF m 124 #[.val (.long p1), .second, .val (.int p2), .val (.long p3), .second, .val (.long p4), .second, .val (.ref r_294), .val (.int (1 : Int32)), .val (.int (1 : Int32)), .val (.long cc), .second, .val (.ref b359), .val (.int (0 : Int32)), .val (.int (0 : Int32)), .val (.int (1 : Int32)), .unset, .unset] [(.int (0 : Int32))])) (fun t k => st369.trans k) ?_
          refine own_go (B := T369.setTop (mkF m 126 #[.val (.long p1), .second, .val (.int p2), .val (.long p3), .second, .val (.long p4), .second, .val (.ref r_294), .val (.int (1 : Int32)), .val (.int (1 : Int32)), .val (.long cc), .second, .val (.ref b359), .val (.int (0 : Int32)), .val (.int (0 : Int32)), .val (.int (1 : Int32)), .val (.int (0 : Int32)), .unset] [])) (fun t k => XS.istore X369.here hx rfl (hb hby at_124) rfl (l' := #[.val (.long p1), .second, .val (.int p2), .val (.long p3), .second, .val (.long p4), .second, .val (.ref r_294), .val (.int (1 : Int32)), .val (.int (1 : Int32)), .val (.long cc), .second, .val (.ref b359), .val (.int (0 : Int32)), .val (.int (0 : Int32)), .val (.int (1 : Int32)), .val (.int (0 : Int32)), .unset]) rfl k) ?_
          refine own_go (B := T369.setTop (mkF m 128 #[.val (.long p1), .second, .val (.int p2), .val (.long p3), .second, .val (.long p4), .second, .val (.ref r_294), .val (.int (1 : Int32)), .val (.int (1 : Int32)), .val (.long cc), .second, .val (.ref b359), .val (.int (0 : Int32)), .val (.int (0 : Int32)), .val (.int (1 : Int32)), .val (.int (0 : Int32)), .unset] [(.ref b359)])) (fun t k => XS.aload X369.here hx rfl (hb hby at_126) rfl rfl k) ?_
          refine own_go (B := T369.setTop (mkF m 131 #[.val (.long p1), .second, .val (.int p2), .val (.long p3), .second, .val (.long p4), .second, .val (.ref r_294), .val (.int (1 : Int32)), .val (.int (1 : Int32)), .val (.long cc), .second, .val (.ref b359), .val (.int (0 : Int32)), .val (.int (0 : Int32)), .val (.int (1 : Int32)), .val (.int (0 : Int32)), .unset] [(.long (9223372036854775807 : Int64)), (.ref b359)])) (fun t k => X369.ldc2Long hx hown (mvT hZ (hw _ (List.mem_of_getElem? (i := 7) rfl))) (g := (mkF m 128 #[.val (.long p1), .second, .val (.int p2), .val (.long p3), .second, .val (.long p4), .second, .val (.ref r_294), .val (.int (1 : Int32)), .val (.int (1 : Int32)), .val (.long cc), .second, .val (.ref b359), .val (.int (0 : Int32)), .val (.int (0 : Int32)), .val (.int (1 : Int32)), .val (.int (0 : Int32)), .unset] [(.ref b359)])) rfl (hb hby at_128) _ k) ?_
          obtain ⟨cq370, kq370, q370a, q370b, q370c⟩ := isOf hZ eh369 Q364_0
          obtain ⟨_, _, ⟨T370, L370, k370, n370⟩, -, X370, ⟨Lc370, hQ370, l370, y370, z370⟩, st370⟩ := X369.virtualBack hx (y := (⟨"com/example/interleave/interleave/engine/Transaction", "committedBy", "(J)Z"⟩ : MethodName)) (z := (⟨"com/example/interleave/interleave/engine/Transaction", "committedBy", "(J)Z"⟩ : MethodName)) hown (mvT hZ (hw _ (List.mem_of_getElem? (i := 115) rfl))) (mvT hZ (hw _ (List.mem_of_getElem? (i := 116) rfl))) (notFace_of_selects (args := #[]) (mvT hZ (hw _ (List.mem_of_getElem? (i := 118) rfl)))) (mvT hZ (hw _ (List.mem_of_getElem? (i := 118) rfl))) (mvT hZ (hw _ (List.mem_of_getElem? (i := 117) rfl))) (by decide) (backOf (W := 0) (own_rm_cby l Z a0 hw [] b359 (9223372036854775807 : Int64) cc (1 : Int32) T364.heap n0 O364 Q364_1 (by simp [hz1, hz3])) hZ (hw _ (List.mem_of_getElem? (i := 119) rfl)) (hw _ (List.mem_of_getElem? (i := 10) rfl)) (by decide) (by decide)) q370a q370c (g := (mkF m 131 #[.val (.long p1), .second, .val (.int p2), .val (.long p3), .second, .val (.long p4), .second, .val (.ref r_294), .val (.int (1 : Int32)), .val (.int (1 : Int32)), .val (.long cc), .second, .val (.ref b359), .val (.int (0 : Int32)), .val (.int (0 : Int32)), .val (.int (1 : Int32)), .val (.int (0 : Int32)), .unset] [(.long (9223372036854775807 : Int64)), (.ref b359)])) rfl (by rw [hml]; rfl) (Steps.refl _) (argsL := [(.long (9223372036854775807 : Int64))]) (rest := []) (lenOf own_pd_5 rfl) rfl (by show 2 * 0 + _ ≤ _; exact Nat.le_of_eq rfl) (hb hby at_131) (fun _ _ => ⟨rfl, eh369, (by decide : 6 + 0 ≤ _), (by decide : 29 + 0 ≤ _)⟩)
          dsimp only [Pt.U, Pt.locs, Pt.cells, Pt.slots] at X370 l370 y370 z370 st370 hQ370
          subst l370 y370 z370
          obtain ⟨rfl, N370q, eh370⟩ := hQ370
          have N370 := Fr.app N369 N370q
          refine own_go (B := T370.setTop (mkF m 134 #[.val (.long p1), .second, .val (.int p2), .val (.long p3), .second, .val (.long p4), .second, .val (.ref r_294), .val (.int (1 : Int32)), .val (.int (1 : Int32)), .val (.long cc), .second, .val (.ref b359), .val (.int (0 : Int32)), .val (.int (0 : Int32)), .val (.int (1 : Int32)), .val (.int (0 : Int32)), .unset] [(.int (1 : Int32))])) (fun t k => st370.trans k) ?_
          refine own_go (B := T370.setTop (mkF m 136 #[.val (.long p1), .second, .val (.int p2), .val (.long p3), .second, .val (.long p4), .second, .val (.ref r_294), .val (.int (1 : Int32)), .val (.int (1 : Int32)), .val (.long cc), .second, .val (.ref b359), .val (.int (0 : Int32)), .val (.int (0 : Int32)), .val (.int (1 : Int32)), .val (.int (0 : Int32)), .val (.int (1 : Int32))] [])) (fun t k => XS.istore X370.here hx rfl (hb hby at_134) rfl (l' := #[.val (.long p1), .second, .val (.int p2), .val (.long p3), .second, .val (.long p4), .second, .val (.ref r_294), .val (.int (1 : Int32)), .val (.int (1 : Int32)), .val (.long cc), .second, .val (.ref b359), .val (.int (0 : Int32)), .val (.int (0 : Int32)), .val (.int (1 : Int32)), .val (.int (0 : Int32)), .val (.int (1 : Int32))]) rfl k) ?_
          refine own_go (B := T370.setTop (mkF m 138 #[.val (.long p1), .second, .val (.int p2), .val (.long p3), .second, .val (.long p4), .second, .val (.ref r_294), .val (.int (1 : Int32)), .val (.int (1 : Int32)), .val (.long cc), .second, .val (.ref b359), .val (.int (0 : Int32)), .val (.int (0 : Int32)), .val (.int (1 : Int32)), .val (.int (0 : Int32)), .val (.int (1 : Int32))] [(.int (0 : Int32))])) (fun t k => XS.iload X370.here hx rfl (hb hby at_136) rfl k) ?_
          refine own_go (B := T370.setTop (mkF m 140 #[.val (.long p1), .second, .val (.int p2), .val (.long p3), .second, .val (.long p4), .second, .val (.ref r_294), .val (.int (1 : Int32)), .val (.int (1 : Int32)), .val (.long cc), .second, .val (.ref b359), .val (.int (0 : Int32)), .val (.int (0 : Int32)), .val (.int (1 : Int32)), .val (.int (0 : Int32)), .val (.int (1 : Int32))] [(.int (0 : Int32)), (.int (0 : Int32))])) (fun t k => XS.iload X370.here hx rfl (hb hby at_138) rfl k) ?_
          refine own_go (B := T370.setTop (mkF m 143 #[.val (.long p1), .second, .val (.int p2), .val (.long p3), .second, .val (.long p4), .second, .val (.ref r_294), .val (.int (1 : Int32)), .val (.int (1 : Int32)), .val (.long cc), .second, .val (.ref b359), .val (.int (0 : Int32)), .val (.int (0 : Int32)), .val (.int (1 : Int32)), .val (.int (0 : Int32)), .val (.int (1 : Int32))] [])) (fun t k => XS.icmpNo X370.here hx rfl (hb hby at_140) rfl (teq (by decide : (0 : Int32) = (0 : Int32))).2 k) ?_
          refine own_go (B := T370.setTop (mkF m 145 #[.val (.long p1), .second, .val (.int p2), .val (.long p3), .second, .val (.long p4), .second, .val (.ref r_294), .val (.int (1 : Int32)), .val (.int (1 : Int32)), .val (.long cc), .second, .val (.ref b359), .val (.int (0 : Int32)), .val (.int (0 : Int32)), .val (.int (1 : Int32)), .val (.int (0 : Int32)), .val (.int (1 : Int32))] [(.int (1 : Int32))])) (fun t k => XS.iload X370.here hx rfl (hb hby at_143) rfl k) ?_
          refine own_go (B := T370.setTop (mkF m 147 #[.val (.long p1), .second, .val (.int p2), .val (.long p3), .second, .val (.long p4), .second, .val (.ref r_294), .val (.int (1 : Int32)), .val (.int (1 : Int32)), .val (.long cc), .second, .val (.ref b359), .val (.int (0 : Int32)), .val (.int (0 : Int32)), .val (.int (1 : Int32)), .val (.int (0 : Int32)), .val (.int (1 : Int32))] [(.int (1 : Int32)), (.int (1 : Int32))])) (fun t k => XS.iload X370.here hx rfl (hb hby at_145) rfl k) ?_
          refine own_go (B := T370.setTop (mkF m 150 #[.val (.long p1), .second, .val (.int p2), .val (.long p3), .second, .val (.long p4), .second, .val (.ref r_294), .val (.int (1 : Int32)), .val (.int (1 : Int32)), .val (.long cc), .second, .val (.ref b359), .val (.int (0 : Int32)), .val (.int (0 : Int32)), .val (.int (1 : Int32)), .val (.int (0 : Int32)), .val (.int (1 : Int32))] [])) (fun t k => XS.icmpNo X370.here hx rfl (hb hby at_147) rfl (teq (by decide : (1 : Int32) = (1 : Int32))).2 k) ?_
          refine own_go (B := T370.setTop (mkF m 152 #[.val (.long p1), .second, .val (.int p2), .val (.long p3), .second, .val (.long p4), .second, .val (.ref r_294), .val (.int (1 : Int32)), .val (.int (1 : Int32)), .val (.long cc), .second, .val (.ref b359), .val (.int (0 : Int32)), .val (.int (0 : Int32)), .val (.int (1 : Int32)), .val (.int (0 : Int32)), .val (.int (1 : Int32))] [(.int (0 : Int32))])) (fun t k => XS.iload X370.here hx rfl (hb hby at_150) rfl k) ?_
          refine own_go (B := T370.setTop (mkF m 155 #[.val (.long p1), .second, .val (.int p2), .val (.long p3), .second, .val (.long p4), .second, .val (.ref r_294), .val (.int (1 : Int32)), .val (.int (1 : Int32)), .val (.long cc), .second, .val (.ref b359), .val (.int (0 : Int32)), .val (.int (0 : Int32)), .val (.int (1 : Int32)), .val (.int (0 : Int32)), .val (.int (1 : Int32))] [])) (fun t k => XS.ifNo X370.here hx rfl (hb hby at_152) rfl ((if0 _ _).trans (teq (by decide : (0 : Int32) = (0 : Int32))).2) k) ?_
          refine own_go (B := T370.setTop (mkF m 157 #[.val (.long p1), .second, .val (.int p2), .val (.long p3), .second, .val (.long p4), .second, .val (.ref r_294), .val (.int (1 : Int32)), .val (.int (1 : Int32)), .val (.long cc), .second, .val (.ref b359), .val (.int (0 : Int32)), .val (.int (0 : Int32)), .val (.int (1 : Int32)), .val (.int (0 : Int32)), .val (.int (1 : Int32))] [(.int (1 : Int32))])) (fun t k => XS.iload X370.here hx rfl (hb hby at_155) rfl k) ?_
          refine own_go (B := T370.setTop (mkF m 159 #[.val (.long p1), .second, .val (.int p2), .val (.long p3), .second, .val (.long p4), .second, .val (.ref r_294), .val (.int (1 : Int32)), .val (.int (1 : Int32)), .val (.long cc), .second, .val (.ref b359), .val (.int (0 : Int32)), .val (.int (0 : Int32)), .val (.int (1 : Int32)), .val (.int (0 : Int32)), .val (.int (1 : Int32))] [(.int (1 : Int32)), (.int (1 : Int32))])) (fun t k => XS.iload X370.here hx rfl (hb hby at_157) rfl k) ?_
          refine own_go (B := T370.setTop (mkF m 162 #[.val (.long p1), .second, .val (.int p2), .val (.long p3), .second, .val (.long p4), .second, .val (.ref r_294), .val (.int (1 : Int32)), .val (.int (1 : Int32)), .val (.long cc), .second, .val (.ref b359), .val (.int (0 : Int32)), .val (.int (0 : Int32)), .val (.int (1 : Int32)), .val (.int (0 : Int32)), .val (.int (1 : Int32))] [])) (fun t k => XS.icmpNo X370.here hx rfl (hb hby at_159) rfl (teq (by decide : (1 : Int32) = (1 : Int32))).2 k) ?_
          refine own_go (B := T370.setTop (mkF m 163 #[.val (.long p1), .second, .val (.int p2), .val (.long p3), .second, .val (.long p4), .second, .val (.ref r_294), .val (.int (1 : Int32)), .val (.int (1 : Int32)), .val (.long cc), .second, .val (.ref b359), .val (.int (0 : Int32)), .val (.int (0 : Int32)), .val (.int (1 : Int32)), .val (.int (0 : Int32)), .val (.int (1 : Int32))] [(.int (1 : Int32))])) (fun t k => XS.iconst X370.here hx rfl (hb hby at_162) k) ?_
          refine own_go (B := T370.setTop (mkF m 167 #[.val (.long p1), .second, .val (.int p2), .val (.long p3), .second, .val (.long p4), .second, .val (.ref r_294), .val (.int (1 : Int32)), .val (.int (1 : Int32)), .val (.long cc), .second, .val (.ref b359), .val (.int (0 : Int32)), .val (.int (0 : Int32)), .val (.int (1 : Int32)), .val (.int (0 : Int32)), .val (.int (1 : Int32))] [(.int (1 : Int32))])) (fun t k => XS.goto X370.here hx rfl (pc0 := 163) (pc' := 167) rfl (hb hby at_163) (by decide) (by decide) k) ?_
          obtain ⟨fs, hr, hrun, hended, hW, hsame⟩ := X370.leave (v := some (.int (1 : Int32))) (fun h => by rw [Bd.returns] at h; cases h)
          refine ⟨_, _, retN X370 hx (t := .boolean) Bd.returns (by simp) (hb hby at_167) hr, hK _ _ ⟨hrun, hended, _, _, rfl, ?_, ⟨_, rfl⟩, hW, hsame.mono (by decide) (by decide)⟩⟩
          show own_Q_law Z p1 p2 p3 p4 w_REPEATABLE_READ w_READ_UNCOMMITTED w_READ_COMMITTED w_SERIALIZABLE w_DEF h0 n0 _ T370.heap _
          rw [eh370]
          exact ⟨rfl, N370⟩
        · refine own_go (B := T364.setTop (mkF m 94 #[.val (.long p1), .second, .val (.int p2), .val (.long p3), .second, .val (.long p4), .second, .val (.ref r_294), .val (.int (1 : Int32)), .val (.int (1 : Int32)), .val (.long cc), .second, .val (.ref b359), .val (.int (0 : Int32)), .unset, .unset, .unset, .unset] [])) (fun t k => XS.ifNo X364.here hx rfl (hb hby at_91) rfl ((if0 _ _).trans (flt (fun q => hc91_366 ((lw_lt p4 cc).mp q))).1) k) ?_
          refine own_go (B := T364.setTop (mkF m 95 #[.val (.long p1), .second, .val (.int p2), .val (.long p3), .second, .val (.long p4), .second, .val (.ref r_294), .val (.int (1 : Int32)), .val (.int (1 : Int32)), .val (.long cc), .second, .val (.ref b359), .val (.int (0 : Int32)), .unset, .unset, .unset, .unset] [(.int (1 : Int32))])) (fun t k => XS.iconst X364.here hx rfl (hb hby at_94) k) ?_
          refine own_go (B := T364.setTop (mkF m 97 #[.val (.long p1), .second, .val (.int p2), .val (.long p3), .second, .val (.long p4), .second, .val (.ref r_294), .val (.int (1 : Int32)), .val (.int (1 : Int32)), .val (.long cc), .second, .val (.ref b359), .val (.int (1 : Int32)), .unset, .unset, .unset, .unset] [])) (fun t k => XS.istore X364.here hx rfl (hb hby at_95) rfl (l' := #[.val (.long p1), .second, .val (.int p2), .val (.long p3), .second, .val (.long p4), .second, .val (.ref r_294), .val (.int (1 : Int32)), .val (.int (1 : Int32)), .val (.long cc), .second, .val (.ref b359), .val (.int (1 : Int32)), .unset, .unset, .unset, .unset]) rfl k) ?_
          refine own_go (B := T364.setTop (mkF m 99 #[.val (.long p1), .second, .val (.int p2), .val (.long p3), .second, .val (.long p4), .second, .val (.ref r_294), .val (.int (1 : Int32)), .val (.int (1 : Int32)), .val (.long cc), .second, .val (.ref b359), .val (.int (1 : Int32)), .unset, .unset, .unset, .unset] [(.ref b359)])) (fun t k => XS.aload X364.here hx rfl (hb hby at_97) rfl rfl k) ?_
          refine own_go (B := T364.setTop (mkF m 101 #[.val (.long p1), .second, .val (.int p2), .val (.long p3), .second, .val (.long p4), .second, .val (.ref r_294), .val (.int (1 : Int32)), .val (.int (1 : Int32)), .val (.long cc), .second, .val (.ref b359), .val (.int (1 : Int32)), .unset, .unset, .unset, .unset] [(.long p4), (.ref b359)])) (fun t k => XS.lload X364.here hx rfl (hb hby at_99) rfl k) ?_
          obtain ⟨cq376, kq376, q376a, q376b, q376c⟩ := isOf hZ (rfl : T364.heap = T364.heap) Q364_0
          obtain ⟨_, _, ⟨T376, L376, k376, n376⟩, -, X376, ⟨Lc376, hQ376, l376, y376, z376⟩, st376⟩ := X364.virtualBack hx (y := (⟨"com/example/interleave/interleave/engine/Transaction", "committedBy", "(J)Z"⟩ : MethodName)) (z := (⟨"com/example/interleave/interleave/engine/Transaction", "committedBy", "(J)Z"⟩ : MethodName)) hown (mvT hZ (hw _ (List.mem_of_getElem? (i := 115) rfl))) (mvT hZ (hw _ (List.mem_of_getElem? (i := 116) rfl))) (notFace_of_selects (args := #[]) (mvT hZ (hw _ (List.mem_of_getElem? (i := 118) rfl)))) (mvT hZ (hw _ (List.mem_of_getElem? (i := 118) rfl))) (mvT hZ (hw _ (List.mem_of_getElem? (i := 117) rfl))) (by decide) (backOf (W := 0) (own_rm_cby l Z a0 hw [] b359 p4 cc (1 : Int32) T364.heap n0 O364 Q364_1 (by simp [hz1, hc91_366])) hZ (hw _ (List.mem_of_getElem? (i := 119) rfl)) (hw _ (List.mem_of_getElem? (i := 10) rfl)) (by decide) (by decide)) q376a q376c (g := (mkF m 101 #[.val (.long p1), .second, .val (.int p2), .val (.long p3), .second, .val (.long p4), .second, .val (.ref r_294), .val (.int (1 : Int32)), .val (.int (1 : Int32)), .val (.long cc), .second, .val (.ref b359), .val (.int (1 : Int32)), .unset, .unset, .unset, .unset] [(.long p4), (.ref b359)])) rfl (by rw [hml]; rfl) (Steps.refl _) (argsL := [(.long p4)]) (rest := []) (lenOf own_pd_5 rfl) rfl (by show 2 * 0 + _ ≤ _; exact Nat.le_of_eq rfl) (hb hby at_101) (fun _ _ => ⟨rfl, (rfl : T364.heap = T364.heap), (by decide : 6 + 0 ≤ _), (by decide : 29 + 0 ≤ _)⟩)
          dsimp only [Pt.U, Pt.locs, Pt.cells, Pt.slots] at X376 l376 y376 z376 st376 hQ376
          subst l376 y376 z376
          obtain ⟨rfl, N376q, eh376⟩ := hQ376
          have N376 := Fr.app N364 N376q
          refine own_go (B := T376.setTop (mkF m 104 #[.val (.long p1), .second, .val (.int p2), .val (.long p3), .second, .val (.long p4), .second, .val (.ref r_294), .val (.int (1 : Int32)), .val (.int (1 : Int32)), .val (.long cc), .second, .val (.ref b359), .val (.int (1 : Int32)), .unset, .unset, .unset, .unset] [(.int (1 : Int32))])) (fun t k => st376.trans k) ?_
          refine own_go (B := T376.setTop (mkF m 106 #[.val (.long p1), .second, .val (.int p2), .val (.long p3), .second, .val (.long p4), .second, .val (.ref r_294), .val (.int (1 : Int32)), .val (.int (1 : Int32)), .val (.long cc), .second, .val (.ref b359), .val (.int (1 : Int32)), .val (.int (1 : Int32)), .unset, .unset, .unset] [])) (fun t k => XS.istore X376.here hx rfl (hb hby at_104) rfl (l' := #[.val (.long p1), .second, .val (.int p2), .val (.long p3), .second, .val (.long p4), .second, .val (.ref r_294), .val (.int (1 : Int32)), .val (.int (1 : Int32)), .val (.long cc), .second, .val (.ref b359), .val (.int (1 : Int32)), .val (.int (1 : Int32)), .unset, .unset, .unset]) rfl k) ?_
          refine own_go (B := T376.setTop (mkF m 108 #[.val (.long p1), .second, .val (.int p2), .val (.long p3), .second, .val (.long p4), .second, .val (.ref r_294), .val (.int (1 : Int32)), .val (.int (1 : Int32)), .val (.long cc), .second, .val (.ref b359), .val (.int (1 : Int32)), .val (.int (1 : Int32)), .unset, .unset, .unset] [(.ref b359)])) (fun t k => XS.aload X376.here hx rfl (hb hby at_106) rfl rfl k) ?_
          refine own_go (B := T376.setTop (mkF m 110 #[.val (.long p1), .second, .val (.int p2), .val (.long p3), .second, .val (.long p4), .second, .val (.ref r_294), .val (.int (1 : Int32)), .val (.int (1 : Int32)), .val (.long cc), .second, .val (.ref b359), .val (.int (1 : Int32)), .val (.int (1 : Int32)), .unset, .unset, .unset] [(.long cc), (.ref b359)])) (fun t k => XS.lload X376.here hx rfl (hb hby at_108) rfl k) ?_
          obtain ⟨cq377, kq377, q377a, q377b, q377c⟩ := isOf hZ eh376 Q364_0
          obtain ⟨_, _, ⟨T377, L377, k377, n377⟩, -, X377, ⟨Lc377, hQ377, l377, y377, z377⟩, st377⟩ := X376.virtualBack hx (y := (⟨"com/example/interleave/interleave/engine/Transaction", "committedBy", "(J)Z"⟩ : MethodName)) (z := (⟨"com/example/interleave/interleave/engine/Transaction", "committedBy", "(J)Z"⟩ : MethodName)) hown (mvT hZ (hw _ (List.mem_of_getElem? (i := 115) rfl))) (mvT hZ (hw _ (List.mem_of_getElem? (i := 116) rfl))) (notFace_of_selects (args := #[]) (mvT hZ (hw _ (List.mem_of_getElem? (i := 118) rfl)))) (mvT hZ (hw _ (List.mem_of_getElem? (i := 118) rfl))) (mvT hZ (hw _ (List.mem_of_getElem? (i := 117) rfl))) (by decide) (backOf (W := 0) (own_rm_cby l Z a0 hw [] b359 cc cc (1 : Int32) T364.heap n0 O364 Q364_1 (by simp [hz1, (own_irr cc)])) hZ (hw _ (List.mem_of_getElem? (i := 119) rfl)) (hw _ (List.mem_of_getElem? (i := 10) rfl)) (by decide) (by decide)) q377a q377c (g := (mkF m 110 #[.val (.long p1), .second, .val (.int p2), .val (.long p3), .second, .val (.long p4), .second, .val (.ref r_294), .val (.int (1 : Int32)), .val (.int (1 : Int32)), .val (.long cc), .second, .val (.ref b359), .val (.int (1 : Int32)), .val (.int (1 : Int32)), .unset, .unset, .unset] [(.long cc), (.ref b359)])) rfl (by rw [hml]; rfl) (Steps.refl _) (argsL := [(.long cc)]) (rest := []) (lenOf own_pd_5 rfl) rfl (by show 2 * 0 + _ ≤ _; exact Nat.le_of_eq rfl) (hb hby at_110) (fun _ _ => ⟨rfl, eh376, (by decide : 6 + 0 ≤ _), (by decide : 29 + 0 ≤ _)⟩)
          dsimp only [Pt.U, Pt.locs, Pt.cells, Pt.slots] at X377 l377 y377 z377 st377 hQ377
          subst l377 y377 z377
          obtain ⟨rfl, N377q, eh377⟩ := hQ377
          have N377 := Fr.app N376 N377q
          refine own_go (B := T377.setTop (mkF m 113 #[.val (.long p1), .second, .val (.int p2), .val (.long p3), .second, .val (.long p4), .second, .val (.ref r_294), .val (.int (1 : Int32)), .val (.int (1 : Int32)), .val (.long cc), .second, .val (.ref b359), .val (.int (1 : Int32)), .val (.int (1 : Int32)), .unset, .unset, .unset] [(.int (1 : Int32))])) (fun t k => st377.trans k) ?_
          refine own_go (B := T377.setTop (mkF m 115 #[.val (.long p1), .second, .val (.int p2), .val (.long p3), .second, .val (.long p4), .second, .val (.ref r_294), .val (.int (1 : Int32)), .val (.int (1 : Int32)), .val (.long cc), .second, .val (.ref b359), .val (.int (1 : Int32)), .val (.int (1 : Int32)), .val (.int (1 : Int32)), .unset, .unset] [])) (fun t k => XS.istore X377.here hx rfl (hb hby at_113) rfl (l' := #[.val (.long p1), .second, .val (.int p2), .val (.long p3), .second, .val (.long p4), .second, .val (.ref r_294), .val (.int (1 : Int32)), .val (.int (1 : Int32)), .val (.long cc), .second, .val (.ref b359), .val (.int (1 : Int32)), .val (.int (1 : Int32)), .val (.int (1 : Int32)), .unset, .unset]) rfl k) ?_
          refine own_go (B := T377.setTop (mkF m 117 #[.val (.long p1), .second, .val (.int p2), .val (.long p3), .second, .val (.long p4), .second, .val (.ref r_294), .val (.int (1 : Int32)), .val (.int (1 : Int32)), .val (.long cc), .second, .val (.ref b359), .val (.int (1 : Int32)), .val (.int (1 : Int32)), .val (.int (1 : Int32)), .unset, .unset] [(.ref b359)])) (fun t k => XS.aload X377.here hx rfl (hb hby at_115) rfl rfl k) ?_
          refine own_go (B := T377.setTop (mkF m 119 #[.val (.long p1), .second, .val (.int p2), .val (.long p3), .second, .val (.long p4), .second, .val (.ref r_294), .val (.int (1 : Int32)), .val (.int (1 : Int32)), .val (.long cc), .second, .val (.ref b359), .val (.int (1 : Int32)), .val (.int (1 : Int32)), .val (.int (1 : Int32)), .unset, .unset] [(.long cc), (.ref b359)])) (fun t k => XS.lload X377.here hx rfl (hb hby at_117) rfl k) ?_
          refine own_go (B := T377.setTop (mkF m 120 #[.val (.long p1), .second, .val (.int p2), .val (.long p3), .second, .val (.long p4), .second, .val (.ref r_294), .val (.int (1 : Int32)), .val (.int (1 : Int32)), .val (.long cc), .second, .val (.ref b359), .val (.int (1 : Int32)), .val (.int (1 : Int32)), .val (.int (1 : Int32)), .unset, .unset] [(.long (1 : Int64)), (.long cc), (.ref b359)])) (fun t k => XS.lconst X377.here hx rfl (hb hby at_119) k) ?_
          refine own_go (B := T377.setTop (mkF m 121 #[.val (.long p1), .second, .val (.int p2), .val (.long p3), .second, .val (.long p4), .second, .val (.ref r_294), .val (.int (1 : Int32)), .val (.int (1 : Int32)), .val (.long cc), .second, .val (.ref b359), .val (.int (1 : Int32)), .val (.int (1 : Int32)), .val (.int (1 : Int32)), .unset, .unset] [(.long (cc - (1 : Int64))), (.ref b359)])) (fun t k => XS.lsub X377.here hx rfl (hb hby at_120) rfl k) ?_
          obtain ⟨cq378, kq378, q378a, q378b, q378c⟩ := isOf hZ eh377 Q364_0
          obtain ⟨_, _, ⟨T378, L378, k378, n378⟩, -, X378, ⟨Lc378, hQ378, l378, y378, z378⟩, st378⟩ := X377.virtualBack hx (y := (⟨"com/example/interleave/interleave/engine/Transaction", "committedBy", "(J)Z"⟩ : MethodName)) (z := (⟨"com/example/interleave/interleave/engine/Transaction", "committedBy", "(J)Z"⟩ : MethodName)) hown (mvT hZ (hw _ (List.mem_of_getElem? (i := 115) rfl))) (mvT hZ (hw _ (List.mem_of_getElem? (i := 116) rfl))) (notFace_of_selects (args := #[]) (mvT hZ (hw _ (List.mem_of_getElem? (i := 118) rfl)))) (mvT hZ (hw _ (List.mem_of_getElem? (i := 118) rfl))) (mvT hZ (hw _ (List.mem_of_getElem? (i := 117) rfl))) (by decide) (backOf (W := 0) (own_rm_cby l Z a0 hw [] b359 (cc - (1 : Int64)) cc (0 : Int32) T364.heap n0 O364 Q364_1 (by simp [hz1, hz2])) hZ (hw _ (List.mem_of_getElem? (i := 119) rfl)) (hw _ (List.mem_of_getElem? (i := 10) rfl)) (by decide) (by decide)) q378a q378c (g := (mkF m 121 #[.val (.long p1), .second, .val (.int p2), .val (.long p3), .second, .val (.long p4), .second, .val (.ref r_294), .val (.int (1 : Int32)), .val (.int (1 : Int32)), .val (.long cc), .second, .val (.ref b359), .val (.int (1 : Int32)), .val (.int (1 : Int32)), .val (.int (1 : Int32)), .unset, .unset] [(.long (cc - (1 : Int64))), (.ref b359)])) rfl (by rw [hml]; rfl) (Steps.refl _) (argsL := [(.long (cc - (1 : Int64)))]) (rest := []) (lenOf own_pd_5 rfl) rfl (by show 2 * 0 + _ ≤ _; exact Nat.le_of_eq rfl) (hb hby at_121) (fun _ _ => ⟨rfl, eh377, (by decide : 6 + 0 ≤ _), (by decide : 29 + 0 ≤ _)⟩)
          dsimp only [Pt.U, Pt.locs, Pt.cells, Pt.slots] at X378 l378 y378 z378 st378 hQ378
          subst l378 y378 z378
          obtain ⟨rfl, N378q, eh378⟩ := hQ378
          have N378 := Fr.app N377 N378q
          refine own_go (B := T378.setTop (mkF m 124 #[.val (.long p1), .second, .val (.int p2), .val (.long p3), .second, .val (.long p4), .second, .val (.ref r_294), .val (.int (1 : Int32)), .val (.int (1 : Int32)), .val (.long cc), .second, .val (.ref b359), .val (.int (1 : Int32)), .val (.int (1 : Int32)), .val (.int (1 : Int32)), .unset, .unset] [(.int (0 : Int32))])) (fun t k => st378.trans k) ?_
          refine own_go (B := T378.setTop (mkF m 126 #[.val (.long p1), .second, .val (.int p2), .val (.long p3), .second, .val (.long p4), .second, .val (.ref r_294), .val (.int (1 : Int32)), .val (.int (1 : Int32)), .val (.long cc), .second, .val (.ref b359), .val (.int (1 : Int32)), .val (.int (1 : Int32)), .val (.int (1 : Int32)), .val (.int (0 : Int32)), .unset] [])) (fun t k => XS.istore X378.here hx rfl (hb hby at_124) rfl (l' := #[.val (.long p1), .second, .val (.int p2), .val (.long p3), .second, .val (.long p4), .second, .val (.ref r_294), .val (.int (1 : Int32)), .val (.int (1 : Int32)), .val (.long cc), .second, .val (.ref b359), .val (.int (1 : Int32)), .val (.int (1 : Int32)), .val (.int (1 : Int32)), .val (.int (0 : Int32)), .unset]) rfl k) ?_
          refine own_go (B := T378.setTop (mkF m 128 #[.val (.long p1), .second, .val (.int p2), .val (.long p3), .second, .val (.long p4), .second, .val (.ref r_294), .val (.int (1 : Int32)), .val (.int (1 : Int32)), .val (.long cc), .second, .val (.ref b359), .val (.int (1 : Int32)), .val (.int (1 : Int32)), .val (.int (1 : Int32)), .val (.int (0 : Int32)), .unset] [(.ref b359)])) (fun t k => XS.aload X378.here hx rfl (hb hby at_126) rfl rfl k) ?_
          refine own_go (B := T378.setTop (mkF m 131 #[.val (.long p1), .second, .val (.int p2), .val (.long p3), .second, .val (.long p4), .second, .val (.ref r_294), .val (.int (1 : Int32)), .val (.int (1 : Int32)), .val (.long cc), .second, .val (.ref b359), .val (.int (1 : Int32)), .val (.int (1 : Int32)), .val (.int (1 : Int32)), .val (.int (0 : Int32)), .unset] [(.long (9223372036854775807 : Int64)), (.ref b359)])) (fun t k => X378.ldc2Long hx hown (mvT hZ (hw _ (List.mem_of_getElem? (i := 7) rfl))) (g := (mkF m 128 #[.val (.long p1), .second, .val (.int p2), .val (.long p3), .second, .val (.long p4), .second, .val (.ref r_294), .val (.int (1 : Int32)), .val (.int (1 : Int32)), .val (.long cc), .second, .val (.ref b359), .val (.int (1 : Int32)), .val (.int (1 : Int32)), .val (.int (1 : Int32)), .val (.int (0 : Int32)), .unset] [(.ref b359)])) rfl (hb hby at_128) _ k) ?_
          obtain ⟨cq379, kq379, q379a, q379b, q379c⟩ := isOf hZ eh378 Q364_0
          obtain ⟨_, _, ⟨T379, L379, k379, n379⟩, -, X379, ⟨Lc379, hQ379, l379, y379, z379⟩, st379⟩ := X378.virtualBack hx (y := (⟨"com/example/interleave/interleave/engine/Transaction", "committedBy", "(J)Z"⟩ : MethodName)) (z := (⟨"com/example/interleave/interleave/engine/Transaction", "committedBy", "(J)Z"⟩ : MethodName)) hown (mvT hZ (hw _ (List.mem_of_getElem? (i := 115) rfl))) (mvT hZ (hw _ (List.mem_of_getElem? (i := 116) rfl))) (notFace_of_selects (args := #[]) (mvT hZ (hw _ (List.mem_of_getElem? (i := 118) rfl)))) (mvT hZ (hw _ (List.mem_of_getElem? (i := 118) rfl))) (mvT hZ (hw _ (List.mem_of_getElem? (i := 117) rfl))) (by decide) (backOf (W := 0) (own_rm_cby l Z a0 hw [] b359 (9223372036854775807 : Int64) cc (1 : Int32) T364.heap n0 O364 Q364_1 (by simp [hz1, hz3])) hZ (hw _ (List.mem_of_getElem? (i := 119) rfl)) (hw _ (List.mem_of_getElem? (i := 10) rfl)) (by decide) (by decide)) q379a q379c (g := (mkF m 131 #[.val (.long p1), .second, .val (.int p2), .val (.long p3), .second, .val (.long p4), .second, .val (.ref r_294), .val (.int (1 : Int32)), .val (.int (1 : Int32)), .val (.long cc), .second, .val (.ref b359), .val (.int (1 : Int32)), .val (.int (1 : Int32)), .val (.int (1 : Int32)), .val (.int (0 : Int32)), .unset] [(.long (9223372036854775807 : Int64)), (.ref b359)])) rfl (by rw [hml]; rfl) (Steps.refl _) (argsL := [(.long (9223372036854775807 : Int64))]) (rest := []) (lenOf own_pd_5 rfl) rfl (by show 2 * 0 + _ ≤ _; exact Nat.le_of_eq rfl) (hb hby at_131) (fun _ _ => ⟨rfl, eh378, (by decide : 6 + 0 ≤ _), (by decide : 29 + 0 ≤ _)⟩)
          dsimp only [Pt.U, Pt.locs, Pt.cells, Pt.slots] at X379 l379 y379 z379 st379 hQ379
          subst l379 y379 z379
          obtain ⟨rfl, N379q, eh379⟩ := hQ379
          have N379 := Fr.app N378 N379q
          refine own_go (B := T379.setTop (mkF m 134 #[.val (.long p1), .second, .val (.int p2), .val (.long p3), .second, .val (.long p4), .second, .val (.ref r_294), .val (.int (1 : Int32)), .val (.int (1 : Int32)), .val (.long cc), .second, .val (.ref b359), .val (.int (1 : Int32)), .val (.int (1 : Int32)), .val (.int (1 : Int32)), .val (.int (0 : Int32)), .unset] [(.int (1 : Int32))])) (fun t k => st379.trans k) ?_
          refine own_go (B := T379.setTop (mkF m 136 #[.val (.long p1), .second, .val (.int p2), .val (.long p3), .second, .val (.long p4), .second, .val (.ref r_294), .val (.int (1 : Int32)), .val (.int (1 : Int32)), .val (.long cc), .second, .val (.ref b359), .val (.int (1 : Int32)), .val (.int (1 : Int32)), .val (.int (1 : Int32)), .val (.int (0 : Int32)), .val (.int (1 : Int32))] [])) (fun t k => XS.istore X379.here hx rfl (hb hby at_134) rfl (l' := #[.val (.long p1), .second, .val (.int p2), .val (.long p3), .second, .val (.long p4), .second, .val (.ref r_294), .val (.int (1 : Int32)), .val (.int (1 : Int32)), .val (.long cc), .second, .val (.ref b359), .val (.int (1 : Int32)), .val (.int (1 : Int32)), .val (.int (1 : Int32)), .val (.int (0 : Int32)), .val (.int (1 : Int32))]) rfl k) ?_
          refine own_go (B := T379.setTop (mkF m 138 #[.val (.long p1), .second, .val (.int p2), .val (.long p3), .second, .val (.long p4), .second, .val (.ref r_294), .val (.int (1 : Int32)), .val (.int (1 : Int32)), .val (.long cc), .second, .val (.ref b359), .val (.int (1 : Int32)), .val (.int (1 : Int32)), .val (.int (1 : Int32)), .val (.int (0 : Int32)), .val (.int (1 : Int32))] [(.int (1 : Int32))])) (fun t k => XS.iload X379.here hx rfl (hb hby at_136) rfl k) ?_
          refine own_go (B := T379.setTop (mkF m 140 #[.val (.long p1), .second, .val (.int p2), .val (.long p3), .second, .val (.long p4), .second, .val (.ref r_294), .val (.int (1 : Int32)), .val (.int (1 : Int32)), .val (.long cc), .second, .val (.ref b359), .val (.int (1 : Int32)), .val (.int (1 : Int32)), .val (.int (1 : Int32)), .val (.int (0 : Int32)), .val (.int (1 : Int32))] [(.int (1 : Int32)), (.int (1 : Int32))])) (fun t k => XS.iload X379.here hx rfl (hb hby at_138) rfl k) ?_
          refine own_go (B := T379.setTop (mkF m 143 #[.val (.long p1), .second, .val (.int p2), .val (.long p3), .second, .val (.long p4), .second, .val (.ref r_294), .val (.int (1 : Int32)), .val (.int (1 : Int32)), .val (.long cc), .second, .val (.ref b359), .val (.int (1 : Int32)), .val (.int (1 : Int32)), .val (.int (1 : Int32)), .val (.int (0 : Int32)), .val (.int (1 : Int32))] [])) (fun t k => XS.icmpNo X379.here hx rfl (hb hby at_140) rfl (teq (by decide : (1 : Int32) = (1 : Int32))).2 k) ?_
          refine own_go (B := T379.setTop (mkF m 145 #[.val (.long p1), .second, .val (.int p2), .val (.long p3), .second, .val (.long p4), .second, .val (.ref r_294), .val (.int (1 : Int32)), .val (.int (1 : Int32)), .val (.long cc), .second, .val (.ref b359), .val (.int (1 : Int32)), .val (.int (1 : Int32)), .val (.int (1 : Int32)), .val (.int (0 : Int32)), .val (.int (1 : Int32))] [(.int (1 : Int32))])) (fun t k => XS.iload X379.here hx rfl (hb hby at_143) rfl k) ?_
          refine own_go (B := T379.setTop (mkF m 147 #[.val (.long p1), .second, .val (.int p2), .val (.long p3), .second, .val (.long p4), .second, .val (.ref r_294), .val (.int (1 : Int32)), .val (.int (1 : Int32)), .val (.long cc), .second, .val (.ref b359), .val (.int (1 : Int32)), .val (.int (1 : Int32)), .val (.int (1 : Int32)), .val (.int (0 : Int32)), .val (.int (1 : Int32))] [(.int (1 : Int32)), (.int (1 : Int32))])) (fun t k => XS.iload X379.here hx rfl (hb hby at_145) rfl k) ?_
          refine own_go (B := T379.setTop (mkF m 150 #[.val (.long p1), .second, .val (.int p2), .val (.long p3), .second, .val (.long p4), .second, .val (.ref r_294), .val (.int (1 : Int32)), .val (.int (1 : Int32)), .val (.long cc), .second, .val (.ref b359), .val (.int (1 : Int32)), .val (.int (1 : Int32)), .val (.int (1 : Int32)), .val (.int (0 : Int32)), .val (.int (1 : Int32))] [])) (fun t k => XS.icmpNo X379.here hx rfl (hb hby at_147) rfl (teq (by decide : (1 : Int32) = (1 : Int32))).2 k) ?_
          refine own_go (B := T379.setTop (mkF m 152 #[.val (.long p1), .second, .val (.int p2), .val (.long p3), .second, .val (.long p4), .second, .val (.ref r_294), .val (.int (1 : Int32)), .val (.int (1 : Int32)), .val (.long cc), .second, .val (.ref b359), .val (.int (1 : Int32)), .val (.int (1 : Int32)), .val (.int (1 : Int32)), .val (.int (0 : Int32)), .val (.int (1 : Int32))] [(.int (0 : Int32))])) (fun t k => XS.iload X379.here hx rfl (hb hby at_150) rfl k) ?_
          refine own_go (B := T379.setTop (mkF m 155 #[.val (.long p1), .second, .val (.int p2), .val (.long p3), .second, .val (.long p4), .second, .val (.ref r_294), .val (.int (1 : Int32)), .val (.int (1 : Int32)), .val (.long cc), .second, .val (.ref b359), .val (.int (1 : Int32)), .val (.int (1 : Int32)), .val (.int (1 : Int32)), .val (.int (0 : Int32)), .val (.int (1 : Int32))] [])) (fun t k => XS.ifNo X379.here hx rfl (hb hby at_152) rfl ((if0 _ _).trans (teq (by decide : (0 : Int32) = (0 : Int32))).2) k) ?_
          refine own_go (B := T379.setTop (mkF m 157 #[.val (.long p1), .second, .val (.int p2), .val (.long p3), .second, .val (.long p4), .second, .val (.ref r_294), .val (.int (1 : Int32)), .val (.int (1 : Int32)), .val (.long cc), .second, .val (.ref b359), .val (.int (1 : Int32)), .val (.int (1 : Int32)), .val (.int (1 : Int32)), .val (.int (0 : Int32)), .val (.int (1 : Int32))] [(.int (1 : Int32))])) (fun t k => XS.iload X379.here hx rfl (hb hby at_155) rfl k) ?_
          refine own_go (B := T379.setTop (mkF m 159 #[.val (.long p1), .second, .val (.int p2), .val (.long p3), .second, .val (.long p4), .second, .val (.ref r_294), .val (.int (1 : Int32)), .val (.int (1 : Int32)), .val (.long cc), .second, .val (.ref b359), .val (.int (1 : Int32)), .val (.int (1 : Int32)), .val (.int (1 : Int32)), .val (.int (0 : Int32)), .val (.int (1 : Int32))] [(.int (1 : Int32)), (.int (1 : Int32))])) (fun t k => XS.iload X379.here hx rfl (hb hby at_157) rfl k) ?_
          refine own_go (B := T379.setTop (mkF m 162 #[.val (.long p1), .second, .val (.int p2), .val (.long p3), .second, .val (.long p4), .second, .val (.ref r_294), .val (.int (1 : Int32)), .val (.int (1 : Int32)), .val (.long cc), .second, .val (.ref b359), .val (.int (1 : Int32)), .val (.int (1 : Int32)), .val (.int (1 : Int32)), .val (.int (0 : Int32)), .val (.int (1 : Int32))] [])) (fun t k => XS.icmpNo X379.here hx rfl (hb hby at_159) rfl (teq (by decide : (1 : Int32) = (1 : Int32))).2 k) ?_
          refine own_go (B := T379.setTop (mkF m 163 #[.val (.long p1), .second, .val (.int p2), .val (.long p3), .second, .val (.long p4), .second, .val (.ref r_294), .val (.int (1 : Int32)), .val (.int (1 : Int32)), .val (.long cc), .second, .val (.ref b359), .val (.int (1 : Int32)), .val (.int (1 : Int32)), .val (.int (1 : Int32)), .val (.int (0 : Int32)), .val (.int (1 : Int32))] [(.int (1 : Int32))])) (fun t k => XS.iconst X379.here hx rfl (hb hby at_162) k) ?_
          refine own_go (B := T379.setTop (mkF m 167 #[.val (.long p1), .second, .val (.int p2), .val (.long p3), .second, .val (.long p4), .second, .val (.ref r_294), .val (.int (1 : Int32)), .val (.int (1 : Int32)), .val (.long cc), .second, .val (.ref b359), .val (.int (1 : Int32)), .val (.int (1 : Int32)), .val (.int (1 : Int32)), .val (.int (0 : Int32)), .val (.int (1 : Int32))] [(.int (1 : Int32))])) (fun t k => XS.goto X379.here hx rfl (pc0 := 163) (pc' := 167) rfl (hb hby at_163) (by decide) (by decide) k) ?_
          obtain ⟨fs, hr, hrun, hended, hW, hsame⟩ := X379.leave (v := some (.int (1 : Int32))) (fun h => by rw [Bd.returns] at h; cases h)
          refine ⟨_, _, retN X379 hx (t := .boolean) Bd.returns (by simp) (hb hby at_167) hr, hK _ _ ⟨hrun, hended, _, _, rfl, ?_, ⟨_, rfl⟩, hW, hsame.mono (by decide) (by decide)⟩⟩
          show own_Q_law Z p1 p2 p3 p4 w_REPEATABLE_READ w_READ_UNCOMMITTED w_READ_COMMITTED w_SERIALIZABLE w_DEF h0 n0 _ T379.heap _
          rw [eh379]
          exact ⟨rfl, N379⟩
      by_cases hc46_385 : c0 = (0 : Int64)
      · refine own_go (B := T294.setTop (mkF m 49 #[.val (.long p1), .second, .val (.int p2), .val (.long p3), .second, .val (.long p4), .second, .val (.ref r_294), .val (.int (1 : Int32)), .val (.int (1 : Int32)), .val (.long c0), .second, .unset, .unset, .unset, .unset, .unset, .unset] [])) (fun t k => XS.ifNo X294.here hx rfl (hb hby at_46) rfl ((if0 _ _).trans (teq ((lw_eq c0 (0 : Int64)).mpr hc46_385)).2) k) ?_
        refine own_go (B := T294.setTop (mkF m 50 #[.val (.long p1), .second, .val (.int p2), .val (.long p3), .second, .val (.long p4), .second, .val (.ref r_294), .val (.int (1 : Int32)), .val (.int (1 : Int32)), .val (.long c0), .second, .unset, .unset, .unset, .unset, .unset, .unset] [(.long (1 : Int64))])) (fun t k => XS.lconst X294.here hx rfl (hb hby at_49) k) ?_
        refine own_go (B := T294.setTop (mkF m 52 #[.val (.long p1), .second, .val (.int p2), .val (.long p3), .second, .val (.long p4), .second, .val (.ref r_294), .val (.int (1 : Int32)), .val (.int (1 : Int32)), .val (.long (1 : Int64)), .second, .unset, .unset, .unset, .unset, .unset, .unset] [])) (fun t k => XS.lstore X294.here hx rfl (hb hby at_50) rfl (l' := #[.val (.long p1), .second, .val (.int p2), .val (.long p3), .second, .val (.long p4), .second, .val (.ref r_294), .val (.int (1 : Int32)), .val (.int (1 : Int32)), .val (.long (1 : Int64)), .second, .unset, .unset, .unset, .unset, .unset, .unset]) rfl k) ?_
        exact J358 _ _ X294 N294 eh294 (1 : Int64) (by decide)
      · refine own_go (B := T294.setTop (mkF m 52 #[.val (.long p1), .second, .val (.int p2), .val (.long p3), .second, .val (.long p4), .second, .val (.ref r_294), .val (.int (1 : Int32)), .val (.int (1 : Int32)), .val (.long c0), .second, .unset, .unset, .unset, .unset, .unset, .unset] [])) (fun t k => XS.ifYes X294.here hx rfl (pc0 := 46) (pc' := 52) rfl (hb hby at_46) rfl ((if0 _ _).trans (feq (fun q => hc46_385 ((lw_eq c0 (0 : Int64)).mp q))).2) (by decide) (by decide) k) ?_
        exact J358 _ _ X294 N294 eh294 c0 (by rw [hc0]; exact own_c1 p3 (by rw [← hc0]; exact hc46_385))
set_option maxRecDepth 65536 in
set_option maxHeartbeats 40000000 in
theorem comes_1 {Post : Tables → Env → Array Value → State → Outcome → State → Prop} (hpost : ∀ tb e args s v u, (limb_1_1.after args s (.returned v) u = true ∧ limb_1_2.after args s (.returned v) u = true ∧ True) → FrameEnd s (.returned v) u (Jvm.fieldLocs frame_1_writes args s ++ Jvm.arrayLocs frame_1_arrays args s ++ Jvm.staticLocs frame_1_statics s) 24 128 → Post tb e args s (.returned v) u) :
    ArmFor flags0 classFile x code maxLocals ret World_1 tables_1 room_1 Calls_1 rest_1 Pre_1 Post := by
  intro l hfl _ _ p e ha hc hk s m args below hf hA hF happ hP
  obtain ⟨hcalls, hrest, hpre⟩ := hP
  obtain ⟨-, -, -, hnamed, -, -, -, hat⟩ := (Spec.applies_iff hf).mp happ
  obtain ⟨hg, hn⟩ := and_e (Cond.before_iff.mp (show (Jvm.Cond.and given_1 narrow_1).before args s = true from hpre))
  obtain ⟨hga, hgb⟩ := and_e hg
  obtain ⟨hgba, hgbb⟩ := and_e hgb
  obtain ⟨hgbba, hgbbb⟩ := and_e hgbb
  obtain ⟨hgbbba, hgbbbb⟩ := and_e hgbbb
  obtain ⟨v0, v1, v2, v3, rfl⟩ : ∃ v0 v1 v2 v3 : Value, args = #[v0, v1, v2, v3] := by
    have hs : args.size = 4 := by simpa [Cond.value, given_1] using hga
    obtain ⟨L⟩ := args
    match L, hs with
    | [v0, v1, v2, v3], _ => exact ⟨v0, v1, v2, v3, rfl⟩
  have hw := fun d (hd : d ∈ tables_1) => atoms_spec (ws := Jvm.Cond.code x code maxLocals ret :: tables_1) hat d (List.mem_cons_of_mem _ hd)
  have hfit : Fit s := fun {y c} hc i hi => by
    obtain ⟨ha, rfl⟩ := Array.getElem?_eq_some_iff.mp hc
    have q := List.all_eq_true.mp ((Array.all_eq_true_iff_forall_mem.mp hF) _ (Array.getElem_mem ha)) i (List.mem_range.mpr hi)
    simpa [Array.getElem?_eq_getElem hi] using q
  obtain ⟨hsets, hown0⟩ := atoms_of _ (rest_1_c_eq ▸ (show rest_1_c.before _ s = true from hrest))
  have hr0 := Cond.before_iff.mp hown0
  obtain ⟨p1, ep1⟩ := isL_v hgba
  obtain rfl : v0 = (.long p1) := Option.some.inj ep1
  obtain ⟨p2, ep2⟩ := is_v hgbba
  obtain rfl : v1 = (.int p2) := Option.some.inj ep2
  obtain ⟨p3, ep3⟩ := isL_v hgbbba
  obtain rfl : v2 = (.long p3) := Option.some.inj ep3
  obtain ⟨p4, ep4⟩ := isL_v hgbbbb
  obtain rfl : v3 = (.long p4) := Option.some.inj ep4
  obtain ⟨hna, hnb⟩ := and_e hn
  obtain ⟨hnba, hnbb⟩ := and_e hnb
  obtain ⟨hnbba, hnbbb⟩ := and_e hnbb
  obtain ⟨w_REPEATABLE_READ, ev_REPEATABLE_READ⟩ := exa_v hna
  have S_REPEATABLE_READ := Sta.start ev_REPEATABLE_READ (Or.inr ⟨(hw _ (List.mem_of_getElem? (i := 5) rfl)), (hw _ (List.mem_of_getElem? (i := 6) rfl))⟩)
  have E_REPEATABLE_READ := Exa.start ev_REPEATABLE_READ hna
  obtain ⟨w_READ_UNCOMMITTED, ev_READ_UNCOMMITTED⟩ := exa_v hnba
  have S_READ_UNCOMMITTED := Sta.start ev_READ_UNCOMMITTED (Or.inr ⟨(hw _ (List.mem_of_getElem? (i := 5) rfl)), (hw _ (List.mem_of_getElem? (i := 121) rfl))⟩)
  have E_READ_UNCOMMITTED := Exa.start ev_READ_UNCOMMITTED hnba
  obtain ⟨w_READ_COMMITTED, ev_READ_COMMITTED⟩ := exa_v hnbba
  have S_READ_COMMITTED := Sta.start ev_READ_COMMITTED (Or.inr ⟨(hw _ (List.mem_of_getElem? (i := 5) rfl)), (hw _ (List.mem_of_getElem? (i := 173) rfl))⟩)
  have E_READ_COMMITTED := Exa.start ev_READ_COMMITTED hnbba
  obtain ⟨w_SERIALIZABLE, ev_SERIALIZABLE⟩ := exa_v hnbbb
  have S_SERIALIZABLE := Sta.start ev_SERIALIZABLE (Or.inr ⟨(hw _ (List.mem_of_getElem? (i := 5) rfl)), (hw _ (List.mem_of_getElem? (i := 175) rfl))⟩)
  have E_SERIALIZABLE := Exa.start ev_SERIALIZABLE hnbbb
  have h6 := Cond.before_iff.mp (hsets _ (List.mem_of_getElem? (i := 6) rfl))
  obtain ⟨w_DEF, evD⟩ := arr_v h6
  have S_DEF := Sta.start evD (Or.inr ⟨(hw _ (List.mem_of_getElem? (i := 26) rfl)), hsets _ (List.mem_of_getElem? (i := 2) rfl)⟩)
  obtain ⟨n, o, h1, h2, h3, _, L, rfl, ⟨rfl, N⟩, hq⟩ := own_rm_law l s _ hw tables_1 p1 p2 p3 p4 w_REPEATABLE_READ w_READ_UNCOMMITTED w_READ_COMMITTED w_SERIALIZABLE w_DEF s.heap s.heap.size (Old.start s) S_REPEATABLE_READ E_REPEATABLE_READ S_READ_UNCOMMITTED E_READ_UNCOMMITTED S_READ_COMMITTED E_READ_COMMITTED S_SERIALIZABLE E_SERIALIZABLE S_DEF p e ha hc hk s m _ below hf ((Spec.applies_iff_loose hf).mp happ).1 ⟨rfl, State.Warmed39.refl s, rfl⟩ trivial
  refine ⟨n, _, h1, h2, h3, hpost _ _ _ _ _ _ ⟨Cond.after_iff.mpr rfl, Cond.after_iff.mpr (eq_i res_at (Term.int_eval (1)) rfl), trivial⟩ ⟨hq.1, hq.2.1, (hq.2.2.sift fun y hy => Or.inr (N y hy)).mono (by decide) (by decide)⟩⟩
theorem main_1_1 : Claimed_1_1 := comes_1 fun _ _ _ _ _ _ h hF => ⟨h.1, hF⟩
theorem main_1_2 : Claimed_1_2 := comes_1 fun _ _ _ _ _ _ h hF => ⟨h.2.1, hF⟩
end Jvm.Pilot.@@N@@
namespace Jvm.Pilot.@@N@@
open Jvm Jvm.ClassFile Sem Op Lib Jvm.Free Jvm.Stand Jvm.Pilot.@@N@@.Jvm.D
/-! MADE BY PROGRAM (witnessworld.py) out of the Statement's table words and the real class files: 31 classes; the members and pool entries that the words name. The judged class is class 1, her method 2. -/
namespace start1
open Jvm.ClassFile
def u (s : String) : CpInfo := .utf8 (stringToUtf16 s)
/-- a pool by its gaps: so many unusable entries, then the entry; so many at the end -/
def gap : Nat → List CpInfo → List CpInfo
  | 0, r => r
  | n + 1, r => .unusable :: gap n r
def poolList (es : List (Nat × CpInfo)) (last : Nat) : List CpInfo := es.foldr (fun e r => gap e.1 (e.2 :: r)) (gap last [])
def pool (es : List (Nat × CpInfo)) (last : Nat) : Array CpInfo := ⟨poolList es last⟩
def fileOf (pool : Array CpInfo) (this : Nat) (attrs : Array Attribute := #[]) (ms : Array MethodInfo := #[]) (fl : Nat := 33) (sup : Nat := 0) (ifs : Array Nat := #[]) (fds : Array FieldInfo := #[]) : ClassFile where
  minorVersion := 0
  majorVersion := 65
  constantPool := pool
  accessFlags := fl
  thisClass := this
  superClass := sup
  interfaces := ifs
  fields := fds
  methods := ms
  attributes := attrs
def plain (name : String) (sup : Option ClassId) : Class where
  name := name
  kind := .ordinary
  loader := none
  accessFlags := 33
  super := sup
  interfaces := #[]
  cf := none
  fields := #[]
  methods := #[]
  instanceTypes := #[]
  staticTypes := #[]
  resolved := #[]
  callSites := []
  init := .initialized
  statics := none
  mirror := none

def pool0 : Array CpInfo := pool [(5, u "<init>"), (0, u "()V"), (1, .class_ 10), (1, u "java/lang/Object")] 113

def k0c0 : Code := { maxStack := 0, maxLocals := 1, code := object_method_1_code, exceptionTable := #[], attributes := #[] }
def k0m0 : Method := { name := "<init>", desc := "()V", sig := { parameters := [], returnType := none }, accessFlags := 1, code := some k0c0 }
/-- java/lang/Object -/
def k0 : Class := { plain "java/lang/Object" none with
  accessFlags := 33
  interfaces := #[]
  cf := some (fileOf pool0 8 #[] #[{ accessFlags := 1, nameIndex := 5, descriptorIndex := 6, attributes := #[] }] 33 0 #[] #[])
  fields := #[]
  methods := #[k0m0]
  instanceTypes := #[]
  staticTypes := #[]
  resolved := Array.replicate 124 none
  statics := none }

def pool1 : Array CpInfo := pool [(2, .class_ 4), (1, u "java/lang/Object"), (0, u "<init>"), (0, u "()V"), (0, .fieldref 8 9), (0, .class_ 10), (0, .nameAndType 11 12), (0, u "com/example/interleave/interleave/sql/IsolationLevel"), (0, u "READ_UNCOMMITTED"), (0, u "Lcom/example/interleave/interleave/sql/IsolationLevel;"), (0, .fieldref 8 14), (0, .nameAndType 15 12), (0, u "READ_COMMITTED"), (0, .fieldref 8 17), (0, .nameAndType 18 12), (0, u "REPEATABLE_READ"), (0, .fieldref 8 20), (0, .nameAndType 21 12), (0, u "SERIALIZABLE"), (0, .methodref 23 24), (0, .class_ 25), (0, .nameAndType 26 27), (0, u "com/example/interleave/interleave/engine/TransactionCommittedByPinLaw"), (0, u "level"), (0, u "(I)Lcom/example/interleave/interleave/sql/IsolationLevel;"), (2, .long 9223372036854775807), (1, .class_ 33), (0, u "com/example/interleave/interleave/engine/Transaction"), (0, .methodref 32 35), (0, .nameAndType 5 36), (0, u "(JLcom/example/interleave/interleave/sql/IsolationLevel;Z)V"), (0, .methodref 32 38), (0, .nameAndType 39 40), (0, u "commit"), (0, u "(J)V"), (0, .methodref 32 42), (0, .nameAndType 43 44), (0, u "committedBy"), (0, u "(J)Z"), (3, u "law"), (0, u "(JIJJ)Z")] 2

def k1m0 : Method := { name := "<init>", desc := "()V", sig := { parameters := [], returnType := none }, accessFlags := 1, code := none }
def k1c1 : Code := { maxStack := 2, maxLocals := 1, code := method_2_code, exceptionTable := #[], attributes := #[] }
def k1m1 : Method := { name := "level", desc := "(I)Lcom/example/interleave/interleave/sql/IsolationLevel;", sig := { parameters := [.int], returnType := some (.object "com/example/interleave/interleave/sql/IsolationLevel") }, accessFlags := 10, code := some k1c1 }
def k1c2 : Code := { maxStack := 6, maxLocals := 18, code := code, exceptionTable := #[], attributes := #[] }
def k1m2 : Method := { name := "law", desc := "(JIJJ)Z", sig := { parameters := [.long, .int, .long, .long], returnType := some .boolean }, accessFlags := 9, code := some k1c2 }
/-- com/example/interleave/interleave/engine/TransactionCommittedByPinLaw -/
def k1 : Class := { plain "com/example/interleave/interleave/engine/TransactionCommittedByPinLaw" (some 0) with
  accessFlags := 49
  interfaces := #[]
  cf := some (fileOf pool1 23 #[] #[{ accessFlags := 1, nameIndex := 5, descriptorIndex := 6, attributes := #[] }, { accessFlags := 10, nameIndex := 26, descriptorIndex := 27, attributes := #[] }, { accessFlags := 9, nameIndex := 48, descriptorIndex := 49, attributes := #[] }] 49 2 #[] #[])
  fields := #[]
  methods := #[k1m0, k1m1, k1m2]
  instanceTypes := #[]
  staticTypes := #[]
  resolved := Array.replicate 52 none
  statics := none }

def pool2 : Array CpInfo := pool [(1, .class_ 2), (0, u "java/lang/constant/Constable"), (0, .class_ 4), (0, u "java/lang/Object")] 6

/-- java/lang/constant/Constable -/
def k2 : Class := { plain "java/lang/constant/Constable" (some 0) with
  accessFlags := 1537
  interfaces := #[]
  cf := some (fileOf pool2 1 #[] #[] 1537 3 #[] #[])
  fields := #[]
  methods := #[]
  instanceTypes := #[]
  staticTypes := #[]
  resolved := Array.replicate 11 none
  statics := none }

def pool3 : Array CpInfo := pool [(1, .class_ 2), (0, u "java/lang/Comparable"), (0, .class_ 4), (0, u "java/lang/Object")] 7

/-- java/lang/Comparable -/
def k3 : Class := { plain "java/lang/Comparable" (some 0) with
  accessFlags := 1537
  interfaces := #[]
  cf := some (fileOf pool3 1 #[] #[] 1537 3 #[] #[])
  fields := #[]
  methods := #[]
  instanceTypes := #[]
  staticTypes := #[]
  resolved := Array.replicate 12 none
  statics := none }

def pool4 : Array CpInfo := pool [(1, .class_ 2), (0, u "java/io/Serializable"), (0, .class_ 4), (0, u "java/lang/Object")] 2

/-- java/io/Serializable -/
def k4 : Class := { plain "java/io/Serializable" (some 0) with
  accessFlags := 1537
  interfaces := #[]
  cf := some (fileOf pool4 1 #[] #[] 1537 3 #[] #[])
  fields := #[]
  methods := #[]
  instanceTypes := #[]
  staticTypes := #[]
  resolved := Array.replicate 7 none
  statics := none }

def pool5 : Array CpInfo := pool [(2, .class_ 4), (1, u "java/lang/Enum"), (0, u "name"), (0, u "Ljava/lang/String;"), (2, u "ordinal"), (0, u "I"), (1, .class_ 14), (1, u "java/lang/Object"), (4, u "hash"), (86, .class_ 108), (1, u "java/lang/Enum$EnumDesc"), (2, .class_ 112), (0, u "java/lang/constant/Constable"), (0, .class_ 114), (0, u "java/lang/Comparable"), (0, .class_ 116), (0, u "java/io/Serializable")] 87

/-- java/lang/Enum -/
def k5 : Class := { plain "java/lang/Enum" (some 0) with
  accessFlags := 1057
  interfaces := #[2, 3, 4]
  cf := some (fileOf pool5 2 #[.nestMembers #[106]] #[] 1057 12 #[111, 113, 115] #[{ accessFlags := 18, nameIndex := 5, descriptorIndex := 6, attributes := #[] }, { accessFlags := 18, nameIndex := 9, descriptorIndex := 10, attributes := #[] }, { accessFlags := 2, nameIndex := 19, descriptorIndex := 10, attributes := #[] }])
  fields := #[{ name := "name", type := (.object "java/lang/String"), accessFlags := 18, slot := 0, constantValue := 0 }, { name := "ordinal", type := .int, accessFlags := 18, slot := 1, constantValue := 0 }, { name := "hash", type := .int, accessFlags := 2, slot := 2, constantValue := 0 }]
  methods := #[]
  instanceTypes := #[(.object "java/lang/String"), .int, .int]
  staticTypes := #[]
  resolved := Array.replicate 204 none
  statics := none }

def pool6 : Array CpInfo := pool [(1, .class_ 2), (0, u "com/example/interleave/interleave/sql/IsolationLevel"), (2, u "READ_UNCOMMITTED"), (0, u "Lcom/example/interleave/interleave/sql/IsolationLevel;"), (2, u "READ_COMMITTED"), (2, u "REPEATABLE_READ"), (2, u "SERIALIZABLE"), (2, u "$VALUES"), (0, u "[Lcom/example/interleave/interleave/sql/IsolationLevel;"), (6, .class_ 28), (1, u "java/lang/Enum")] 38

/-- com/example/interleave/interleave/sql/IsolationLevel -/
def k6 : Class := { plain "com/example/interleave/interleave/sql/IsolationLevel" (some 5) with
  accessFlags := 16433
  interfaces := #[]
  cf := some (fileOf pool6 1 #[] #[] 16433 26 #[] #[{ accessFlags := 16409, nameIndex := 5, descriptorIndex := 6, attributes := #[] }, { accessFlags := 16409, nameIndex := 9, descriptorIndex := 6, attributes := #[] }, { accessFlags := 16409, nameIndex := 12, descriptorIndex := 6, attributes := #[] }, { accessFlags := 16409, nameIndex := 15, descriptorIndex := 6, attributes := #[] }, { accessFlags := 4122, nameIndex := 18, descriptorIndex := 19, attributes := #[] }])
  fields := #[{ name := "READ_UNCOMMITTED", type := (.object "com/example/interleave/interleave/sql/IsolationLevel"), accessFlags := 16409, slot := 0, constantValue := 0 }, { name := "READ_COMMITTED", type := (.object "com/example/interleave/interleave/sql/IsolationLevel"), accessFlags := 16409, slot := 1, constantValue := 0 }, { name := "REPEATABLE_READ", type := (.object "com/example/interleave/interleave/sql/IsolationLevel"), accessFlags := 16409, slot := 2, constantValue := 0 }, { name := "SERIALIZABLE", type := (.object "com/example/interleave/interleave/sql/IsolationLevel"), accessFlags := 16409, slot := 3, constantValue := 0 }, { name := "$VALUES", type := (.array (.object "com/example/interleave/interleave/sql/IsolationLevel")), accessFlags := 4122, slot := 4, constantValue := 0 }]
  methods := #[]
  instanceTypes := #[(.object "java/lang/String"), .int, .int]
  staticTypes := #[(.object "com/example/interleave/interleave/sql/IsolationLevel"), (.object "com/example/interleave/interleave/sql/IsolationLevel"), (.object "com/example/interleave/interleave/sql/IsolationLevel"), (.object "com/example/interleave/interleave/sql/IsolationLevel"), (.array (.object "com/example/interleave/interleave/sql/IsolationLevel"))]
  resolved := Array.replicate 67 none
  statics := some 0 }

def pool7 : Array CpInfo := pool [(1, .methodref 2 3), (0, .class_ 4), (0, .nameAndType 5 6), (0, u "java/lang/Object"), (0, u "<init>"), (0, u "()V"), (0, .class_ 8), (0, u "com/example/interleave/interleave/engine/UndoLog"), (0, .methodref 7 3), (0, .fieldref 11 12), (0, .class_ 13), (0, .nameAndType 14 15), (0, u "com/example/interleave/interleave/engine/Transaction"), (0, u "undo"), (0, u "Lcom/example/interleave/interleave/engine/UndoLog;"), (0, .class_ 17), (0, u "java/util/LinkedHashMap"), (0, .methodref 16 3), (0, .fieldref 11 20), (0, .nameAndType 21 22), (0, u "written"), (0, u "Ljava/util/Map;"), (0, .long 18446744073709551615), (1, .fieldref 11 26), (0, .nameAndType 27 28), (0, u "snapshot"), (0, u "J"), (0, .fieldref 11 30), (0, .nameAndType 31 28), (0, u "commitNumber"), (0, .fieldref 11 33), (0, .nameAndType 34 28), (0, u "beginNumber"), (0, .fieldref 11 36), (0, .nameAndType 37 38), (0, u "level"), (0, u "Lcom/example/interleave/interleave/sql/IsolationLevel;"), (0, .fieldref 11 40), (0, .nameAndType 41 42), (0, u "autocommit"), (0, u "Z"), (5, .class_ 50), (1, u "java/util/Map"), (28, .interfaceMethodref 48 80), (0, .nameAndType 81 6), (0, u "clear"), (22, .methodref 7 80), (2, u "waitingFor"), (0, u "Lcom/example/interleave/interleave/engine/LockRequest;"), (8, u "committedBy"), (0, u "(J)Z"), (3, u "NO_SNAPSHOT"), (1, u "NOT_COMMITTED"), (4, u "(JLcom/example/interleave/interleave/sql/IsolationLevel;Z)V"), (16, u "(J)V"), (3, u "commit")] 32

def k7c0 : Code := { maxStack := 3, maxLocals := 5, code := prog_55_method_1_code, exceptionTable := #[], attributes := #[] }
def k7m0 : Method := { name := "<init>", desc := "(JLcom/example/interleave/interleave/sql/IsolationLevel;Z)V", sig := { parameters := [.long, (.object "com/example/interleave/interleave/sql/IsolationLevel"), .boolean], returnType := none }, accessFlags := 0, code := some k7c0 }
def k7c1 : Code := { maxStack := 3, maxLocals := 3, code := prog_55_method_18_code, exceptionTable := #[], attributes := #[] }
def k7m1 : Method := { name := "commit", desc := "(J)V", sig := { parameters := [.long], returnType := none }, accessFlags := 0, code := some k7c1 }
def k7c2 : Code := { maxStack := 4, maxLocals := 3, code := prog_55_method_19_code, exceptionTable := #[], attributes := #[] }
def k7m2 : Method := { name := "committedBy", desc := "(J)Z", sig := { parameters := [.long], returnType := some .boolean }, accessFlags := 0, code := some k7c2 }
/-- com/example/interleave/interleave/engine/Transaction -/
def k7 : Class := { plain "com/example/interleave/interleave/engine/Transaction" (some 0) with
  accessFlags := 32
  interfaces := #[]
  cf := some (fileOf pool7 11 #[] #[{ accessFlags := 0, nameIndex := 5, descriptorIndex := 129, attributes := #[] }, { accessFlags := 0, nameIndex := 150, descriptorIndex := 146, attributes := #[] }, { accessFlags := 0, nameIndex := 117, descriptorIndex := 118, attributes := #[] }] 32 2 #[] #[{ accessFlags := 26, nameIndex := 122, descriptorIndex := 28, attributes := #[] }, { accessFlags := 26, nameIndex := 124, descriptorIndex := 28, attributes := #[] }, { accessFlags := 18, nameIndex := 34, descriptorIndex := 28, attributes := #[] }, { accessFlags := 18, nameIndex := 37, descriptorIndex := 38, attributes := #[] }, { accessFlags := 18, nameIndex := 41, descriptorIndex := 42, attributes := #[] }, { accessFlags := 18, nameIndex := 14, descriptorIndex := 15, attributes := #[] }, { accessFlags := 18, nameIndex := 21, descriptorIndex := 22, attributes := #[] }, { accessFlags := 2, nameIndex := 27, descriptorIndex := 28, attributes := #[] }, { accessFlags := 2, nameIndex := 31, descriptorIndex := 28, attributes := #[] }, { accessFlags := 2, nameIndex := 107, descriptorIndex := 108, attributes := #[] }])
  fields := #[{ name := "NO_SNAPSHOT", type := .long, accessFlags := 26, slot := 0, constantValue := 0 }, { name := "NOT_COMMITTED", type := .long, accessFlags := 26, slot := 1, constantValue := 0 }, { name := "beginNumber", type := .long, accessFlags := 18, slot := 0, constantValue := 0 }, { name := "level", type := (.object "com/example/interleave/interleave/sql/IsolationLevel"), accessFlags := 18, slot := 1, constantValue := 0 }, { name := "autocommit", type := .boolean, accessFlags := 18, slot := 2, constantValue := 0 }, { name := "undo", type := (.object "com/example/interleave/interleave/engine/UndoLog"), accessFlags := 18, slot := 3, constantValue := 0 }, { name := "written", type := (.object "java/util/Map"), accessFlags := 18, slot := 4, constantValue := 0 }, { name := "snapshot", type := .long, accessFlags := 2, slot := 5, constantValue := 0 }, { name := "commitNumber", type := .long, accessFlags := 2, slot := 6, constantValue := 0 }, { name := "waitingFor", type := (.object "com/example/interleave/interleave/engine/LockRequest"), accessFlags := 2, slot := 7, constantValue := 0 }]
  methods := #[k7m0, k7m1, k7m2]
  instanceTypes := #[.long, (.object "com/example/interleave/interleave/sql/IsolationLevel"), .boolean, (.object "com/example/interleave/interleave/engine/UndoLog"), (.object "java/util/Map"), .long, .long, (.object "com/example/interleave/interleave/engine/LockRequest")]
  staticTypes := #[.long, .long]
  resolved := Array.replicate 183 none
  statics := none }

def pool8 : Array CpInfo := pool [(1, .methodref 2 3), (0, .class_ 4), (0, .nameAndType 5 6), (0, u "java/lang/Object"), (0, u "<init>"), (0, u "()V"), (0, .class_ 8), (0, u "java/util/ArrayList"), (0, .methodref 7 3), (0, .fieldref 11 12), (0, .class_ 13), (0, .nameAndType 14 15), (0, u "com/example/interleave/interleave/engine/UndoLog"), (0, u "entries"), (0, u "Ljava/util/List;"), (0, .class_ 17), (0, u "java/util/BitSet"), (0, .methodref 16 3), (0, .fieldref 11 20), (0, .nameAndType 21 22), (0, u "changes"), (0, u "Ljava/util/BitSet;"), (1, .class_ 26), (1, u "java/util/List"), (13, .interfaceMethodref 24 41), (0, .nameAndType 42 6), (0, u "clear"), (0, .methodref 16 41)] 26

def k8c0 : Code := { maxStack := 3, maxLocals := 1, code := prog_57_method_1_code, exceptionTable := #[], attributes := #[] }
def k8m0 : Method := { name := "<init>", desc := "()V", sig := { parameters := [], returnType := none }, accessFlags := 0, code := some k8c0 }
def k8c1 : Code := { maxStack := 1, maxLocals := 1, code := prog_57_method_6_code, exceptionTable := #[], attributes := #[] }
def k8m1 : Method := { name := "clear", desc := "()V", sig := { parameters := [], returnType := none }, accessFlags := 0, code := some k8c1 }
/-- com/example/interleave/interleave/engine/UndoLog -/
def k8 : Class := { plain "com/example/interleave/interleave/engine/UndoLog" (some 0) with
  accessFlags := 32
  interfaces := #[]
  cf := some (fileOf pool8 11 #[] #[{ accessFlags := 0, nameIndex := 5, descriptorIndex := 6, attributes := #[] }, { accessFlags := 0, nameIndex := 42, descriptorIndex := 6, attributes := #[] }] 32 2 #[] #[{ accessFlags := 18, nameIndex := 14, descriptorIndex := 15, attributes := #[] }, { accessFlags := 18, nameIndex := 21, descriptorIndex := 22, attributes := #[] }])
  fields := #[{ name := "entries", type := (.object "java/util/List"), accessFlags := 18, slot := 0, constantValue := 0 }, { name := "changes", type := (.object "java/util/BitSet"), accessFlags := 18, slot := 1, constantValue := 0 }]
  methods := #[k8m0, k8m1]
  instanceTypes := #[(.object "java/util/List"), (.object "java/util/BitSet")]
  staticTypes := #[]
  resolved := Array.replicate 70 none
  statics := none }

def pool9 : Array CpInfo := pool [(8, .class_ 10), (1, u "java/lang/Iterable"), (24, .class_ 36), (0, u "java/lang/Object")] 25

/-- java/lang/Iterable -/
def k9 : Class := { plain "java/lang/Iterable" (some 0) with
  accessFlags := 1537
  interfaces := #[]
  cf := some (fileOf pool9 8 #[] #[] 1537 35 #[] #[])
  fields := #[]
  methods := #[]
  instanceTypes := #[]
  staticTypes := #[]
  resolved := Array.replicate 62 none
  statics := none }

def pool10 : Array CpInfo := pool [(10, .class_ 12), (1, u "java/util/Collection"), (47, .class_ 61), (0, u "java/lang/Object"), (0, .class_ 63), (0, u "java/lang/Iterable")] 51

/-- java/util/Collection -/
def k10 : Class := { plain "java/util/Collection" (some 0) with
  accessFlags := 1537
  interfaces := #[9]
  cf := some (fileOf pool10 10 #[] #[] 1537 60 #[62] #[])
  fields := #[]
  methods := #[]
  instanceTypes := #[]
  staticTypes := #[]
  resolved := Array.replicate 115 none
  statics := none }

def pool11 : Array CpInfo := pool [(1, .methodref 2 3), (0, .class_ 4), (0, .nameAndType 5 6), (0, u "java/lang/Object"), (0, u "<init>"), (0, u "()V"), (1, .class_ 10), (1, u "java/util/AbstractCollection"), (66, .class_ 78), (0, u "java/util/Collection")] 81

def k11c0 : Code := { maxStack := 1, maxLocals := 1, code := jdk_22_method_1_code, exceptionTable := #[], attributes := #[] }
def k11m0 : Method := { name := "<init>", desc := "()V", sig := { parameters := [], returnType := none }, accessFlags := 4, code := some k11c0 }
/-- java/util/AbstractCollection -/
def k11 : Class := { plain "java/util/AbstractCollection" (some 0) with
  accessFlags := 1057
  interfaces := #[10]
  cf := some (fileOf pool11 8 #[] #[{ accessFlags := 4, nameIndex := 5, descriptorIndex := 6, attributes := #[] }] 1057 2 #[77] #[])
  fields := #[]
  methods := #[k11m0]
  instanceTypes := #[]
  staticTypes := #[]
  resolved := Array.replicate 160 none
  statics := none }

def pool12 : Array CpInfo := pool [(8, .class_ 10), (1, u "java/util/SequencedCollection"), (15, .class_ 27), (0, u "java/lang/Object"), (0, .class_ 29), (0, u "java/util/Collection")] 27

/-- java/util/SequencedCollection -/
def k12 : Class := { plain "java/util/SequencedCollection" (some 0) with
  accessFlags := 1537
  interfaces := #[10]
  cf := some (fileOf pool12 8 #[] #[] 1537 26 #[28] #[])
  fields := #[]
  methods := #[]
  instanceTypes := #[]
  staticTypes := #[]
  resolved := Array.replicate 57 none
  statics := none }

def pool13 : Array CpInfo := pool [(8, .class_ 10), (1, u "java/util/List"), (61, u "()V"), (30, .class_ 104), (0, u "java/lang/Object"), (15, .class_ 121), (0, u "java/util/SequencedCollection"), (47, u "clear")] 81

def k13m0 : Method := { name := "clear", desc := "()V", sig := { parameters := [], returnType := none }, accessFlags := 1025, code := none }
/-- java/util/List -/
def k13 : Class := { plain "java/util/List" (some 0) with
  accessFlags := 1537
  interfaces := #[12]
  cf := some (fileOf pool13 8 #[] #[{ accessFlags := 1025, nameIndex := 169, descriptorIndex := 72, attributes := #[] }] 1537 103 #[120] #[])
  fields := #[]
  methods := #[k13m0]
  instanceTypes := #[]
  staticTypes := #[]
  resolved := Array.replicate 251 none
  statics := none }

def pool14 : Array CpInfo := pool [(1, .methodref 2 3), (0, .class_ 4), (0, .nameAndType 5 6), (0, u "java/util/AbstractCollection"), (0, u "<init>"), (0, u "()V"), (0, .fieldref 8 9), (0, .class_ 10), (0, .nameAndType 11 12), (0, u "java/util/AbstractList"), (0, u "modCount"), (0, u "I"), (64, .class_ 78), (0, u "java/util/AbstractList$Itr"), (3, .class_ 83), (0, u "java/util/AbstractList$ListItr"), (9, .class_ 94), (0, u "java/util/AbstractList$RandomAccessSubList"), (3, .class_ 99), (0, u "java/util/AbstractList$SubList"), (33, .class_ 134), (0, u "java/util/List"), (73, .class_ 209), (0, u "java/util/AbstractList$SubList$1"), (0, .class_ 211), (0, u "java/util/AbstractList$RandomAccessSpliterator")] 6

def k14c0 : Code := { maxStack := 2, maxLocals := 1, code := jdk_39_method_1_code, exceptionTable := #[], attributes := #[] }
def k14m0 : Method := { name := "<init>", desc := "()V", sig := { parameters := [], returnType := none }, accessFlags := 4, code := some k14c0 }
/-- java/util/AbstractList -/
def k14 : Class := { plain "java/util/AbstractList" (some 11) with
  accessFlags := 1057
  interfaces := #[13]
  cf := some (fileOf pool14 8 #[.nestMembers #[93, 98, 208, 210, 82, 77]] #[{ accessFlags := 4, nameIndex := 5, descriptorIndex := 6, attributes := #[] }] 1057 2 #[133] #[{ accessFlags := 132, nameIndex := 11, descriptorIndex := 12, attributes := #[] }])
  fields := #[{ name := "modCount", type := .int, accessFlags := 132, slot := 0, constantValue := 0 }]
  methods := #[k14m0]
  instanceTypes := #[.int]
  staticTypes := #[]
  resolved := Array.replicate 218 none
  statics := none }

def pool15 : Array CpInfo := pool [(1, .class_ 2), (0, u "java/util/RandomAccess"), (0, .class_ 4), (0, u "java/lang/Object")] 2

/-- java/util/RandomAccess -/
def k15 : Class := { plain "java/util/RandomAccess" (some 0) with
  accessFlags := 1537
  interfaces := #[]
  cf := some (fileOf pool15 1 #[] #[] 1537 3 #[] #[])
  fields := #[]
  methods := #[]
  instanceTypes := #[]
  staticTypes := #[]
  resolved := Array.replicate 7 none
  statics := none }

def pool16 : Array CpInfo := pool [(1, .class_ 2), (0, u "java/lang/Cloneable"), (0, .class_ 4), (0, u "java/lang/Object")] 2

/-- java/lang/Cloneable -/
def k16 : Class := { plain "java/lang/Cloneable" (some 0) with
  accessFlags := 1537
  interfaces := #[]
  cf := some (fileOf pool16 1 #[] #[] 1537 3 #[] #[])
  fields := #[]
  methods := #[]
  instanceTypes := #[]
  staticTypes := #[]
  resolved := Array.replicate 7 none
  statics := none }

def pool17 : Array CpInfo := pool [(1, .methodref 2 3), (0, .class_ 4), (0, .nameAndType 5 6), (0, u "java/util/AbstractList"), (0, u "<init>"), (0, u "()V"), (2, .fieldref 10 11), (0, .class_ 12), (0, .nameAndType 13 14), (0, u "java/util/ArrayList"), (0, u "elementData"), (0, u "[Ljava/lang/Object;"), (2, u "EMPTY_ELEMENTDATA"), (21, .fieldref 10 40), (0, .nameAndType 41 14), (0, u "DEFAULTCAPACITY_EMPTY_ELEMENTDATA"), (6, .fieldref 10 49), (0, .nameAndType 50 51), (0, u "size"), (0, u "I"), (11, .fieldref 10 64), (0, .nameAndType 65 51), (0, u "modCount"), (82, .class_ 149), (0, u "java/util/List"), (112, .class_ 263), (0, u "java/util/ArrayList$ListItr"), (3, .class_ 268), (0, u "java/util/ArrayList$Itr"), (7, .class_ 277), (0, u "java/util/ArrayList$SubList"), (12, .class_ 291), (0, u "java/util/ArrayList$ArrayListSpliterator"), (37, .class_ 330), (0, u "java/util/RandomAccess"), (0, .class_ 332), (0, u "java/lang/Cloneable"), (0, .class_ 334), (0, u "java/io/Serializable"), (0, u "serialVersionUID"), (0, u "J"), (3, u "DEFAULT_CAPACITY"), (78, u "clear"), (80, .class_ 501), (0, u "java/util/ArrayList$SubList$2"), (0, .class_ 503), (0, u "java/util/ArrayList$SubList$1")] 5

def k17c0 : Code := { maxStack := 2, maxLocals := 1, code := jdk_38_method_2_code, exceptionTable := #[], attributes := #[] }
def k17m0 : Method := { name := "<init>", desc := "()V", sig := { parameters := [], returnType := none }, accessFlags := 1, code := some k17c0 }
def k17c1 : Code := { maxStack := 3, maxLocals := 4, code := jdk_38_method_40_code, exceptionTable := #[], attributes := #[] }
def k17m1 : Method := { name := "clear", desc := "()V", sig := { parameters := [], returnType := none }, accessFlags := 1, code := some k17c1 }
/-- java/util/ArrayList -/
def k17 : Class := { plain "java/util/ArrayList" (some 14) with
  accessFlags := 33
  interfaces := #[13, 15, 16, 4]
  cf := some (fileOf pool17 10 #[.nestMembers #[290, 276, 500, 502, 262, 267]] #[{ accessFlags := 1, nameIndex := 5, descriptorIndex := 6, attributes := #[] }, { accessFlags := 1, nameIndex := 419, descriptorIndex := 6, attributes := #[] }] 33 2 #[148, 329, 331, 333] #[{ accessFlags := 26, nameIndex := 335, descriptorIndex := 336, attributes := #[] }, { accessFlags := 26, nameIndex := 340, descriptorIndex := 51, attributes := #[] }, { accessFlags := 26, nameIndex := 17, descriptorIndex := 14, attributes := #[] }, { accessFlags := 26, nameIndex := 41, descriptorIndex := 14, attributes := #[] }, { accessFlags := 128, nameIndex := 13, descriptorIndex := 14, attributes := #[] }, { accessFlags := 2, nameIndex := 50, descriptorIndex := 51, attributes := #[] }])
  fields := #[{ name := "serialVersionUID", type := .long, accessFlags := 26, slot := 0, constantValue := 0 }, { name := "DEFAULT_CAPACITY", type := .int, accessFlags := 26, slot := 1, constantValue := 0 }, { name := "EMPTY_ELEMENTDATA", type := (.array (.object "java/lang/Object")), accessFlags := 26, slot := 2, constantValue := 0 }, { name := "DEFAULTCAPACITY_EMPTY_ELEMENTDATA", type := (.array (.object "java/lang/Object")), accessFlags := 26, slot := 3, constantValue := 0 }, { name := "elementData", type := (.array (.object "java/lang/Object")), accessFlags := 128, slot := 1, constantValue := 0 }, { name := "size", type := .int, accessFlags := 2, slot := 2, constantValue := 0 }]
  methods := #[k17m0, k17m1]
  instanceTypes := #[.int, (.array (.object "java/lang/Object")), .int]
  staticTypes := #[.long, .int, (.array (.object "java/lang/Object")), (.array (.object "java/lang/Object"))]
  resolved := Array.replicate 509 none
  statics := some 1 }

def pool18 : Array CpInfo := pool [(1, .class_ 2), (0, u "java/util/BitSet"), (2, u "$assertionsDisabled"), (0, u "Z"), (0, .fieldref 1 8), (0, .nameAndType 9 10), (0, u "wordsInUse"), (0, u "I"), (0, .fieldref 1 12), (0, .nameAndType 13 14), (0, u "words"), (0, u "[J"), (3, .nameAndType 19 20), (0, u "<init>"), (0, u "()V"), (0, .methodref 22 18), (0, .class_ 23), (0, u "java/lang/Object"), (0, .fieldref 1 25), (0, .nameAndType 26 6), (0, u "sizeIsSticky"), (0, .methodref 1 28), (0, .nameAndType 29 30), (0, u "initWords"), (0, u "(I)V"), (21, .methodref 1 53), (0, .nameAndType 54 55), (0, u "wordIndex"), (0, u "(I)I"), (116, u "clear"), (96, .class_ 270), (0, u "java/util/BitSet$1BitSetSpliterator"), (22, u "serialPersistentFields"), (0, u "[Ljava/io/ObjectStreamField;"), (0, .class_ 296), (0, u "java/lang/Cloneable"), (0, .class_ 298), (0, u "java/io/Serializable"), (0, u "ADDRESS_BITS_PER_WORD"), (2, u "BITS_PER_WORD"), (1, u "BIT_INDEX_MASK"), (1, u "WORD_MASK"), (0, u "J"), (0, u "serialVersionUID")] 108

def k18c0 : Code := { maxStack := 2, maxLocals := 1, code := jdk_92_method_1_code, exceptionTable := #[], attributes := #[] }
def k18m0 : Method := { name := "wordIndex", desc := "(I)I", sig := { parameters := [.int], returnType := some .int }, accessFlags := 10, code := some k18c0 }
def k18c1 : Code := { maxStack := 2, maxLocals := 1, code := jdk_92_method_4_code, exceptionTable := #[], attributes := #[] }
def k18m1 : Method := { name := "<init>", desc := "()V", sig := { parameters := [], returnType := none }, accessFlags := 1, code := some k18c1 }
def k18c2 : Code := { maxStack := 3, maxLocals := 2, code := jdk_92_method_6_code, exceptionTable := #[], attributes := #[] }
def k18m2 : Method := { name := "initWords", desc := "(I)V", sig := { parameters := [.int], returnType := none }, accessFlags := 2, code := some k18c2 }
def k18c3 : Code := { maxStack := 4, maxLocals := 1, code := jdk_92_method_25_code, exceptionTable := #[], attributes := #[] }
def k18m3 : Method := { name := "clear", desc := "()V", sig := { parameters := [], returnType := none }, accessFlags := 1, code := some k18c3 }
/-- java/util/BitSet -/
def k18 : Class := { plain "java/util/BitSet" (some 0) with
  accessFlags := 33
  interfaces := #[16, 4]
  cf := some (fileOf pool18 1 #[.nestMembers #[269]] #[{ accessFlags := 10, nameIndex := 54, descriptorIndex := 55, attributes := #[] }, { accessFlags := 1, nameIndex := 19, descriptorIndex := 20, attributes := #[] }, { accessFlags := 2, nameIndex := 29, descriptorIndex := 30, attributes := #[] }, { accessFlags := 1, nameIndex := 172, descriptorIndex := 20, attributes := #[] }] 33 22 #[295, 297] #[{ accessFlags := 26, nameIndex := 299, descriptorIndex := 10, attributes := #[] }, { accessFlags := 26, nameIndex := 302, descriptorIndex := 10, attributes := #[] }, { accessFlags := 26, nameIndex := 304, descriptorIndex := 10, attributes := #[] }, { accessFlags := 26, nameIndex := 306, descriptorIndex := 307, attributes := #[] }, { accessFlags := 26, nameIndex := 293, descriptorIndex := 294, attributes := #[] }, { accessFlags := 2, nameIndex := 13, descriptorIndex := 14, attributes := #[] }, { accessFlags := 130, nameIndex := 9, descriptorIndex := 10, attributes := #[] }, { accessFlags := 130, nameIndex := 26, descriptorIndex := 6, attributes := #[] }, { accessFlags := 26, nameIndex := 308, descriptorIndex := 307, attributes := #[] }, { accessFlags := 4120, nameIndex := 5, descriptorIndex := 6, attributes := #[] }])
  fields := #[{ name := "ADDRESS_BITS_PER_WORD", type := .int, accessFlags := 26, slot := 0, constantValue := 0 }, { name := "BITS_PER_WORD", type := .int, accessFlags := 26, slot := 1, constantValue := 0 }, { name := "BIT_INDEX_MASK", type := .int, accessFlags := 26, slot := 2, constantValue := 0 }, { name := "WORD_MASK", type := .long, accessFlags := 26, slot := 3, constantValue := 0 }, { name := "serialPersistentFields", type := (.array (.object "java/io/ObjectStreamField")), accessFlags := 26, slot := 4, constantValue := 0 }, { name := "words", type := (.array .long), accessFlags := 2, slot := 0, constantValue := 0 }, { name := "wordsInUse", type := .int, accessFlags := 130, slot := 1, constantValue := 0 }, { name := "sizeIsSticky", type := .boolean, accessFlags := 130, slot := 2, constantValue := 0 }, { name := "serialVersionUID", type := .long, accessFlags := 26, slot := 5, constantValue := 0 }, { name := "$assertionsDisabled", type := .boolean, accessFlags := 4120, slot := 6, constantValue := 0 }]
  methods := #[k18m0, k18m1, k18m2, k18m3]
  instanceTypes := #[(.array .long), .int, .boolean]
  staticTypes := #[.int, .int, .int, .long, (.array (.object "java/io/ObjectStreamField")), .long, .boolean]
  resolved := Array.replicate 417 none
  statics := none }

def pool19 : Array CpInfo := pool [(2, .class_ 4), (1, u "java/util/Map"), (31, .class_ 37), (0, u "java/util/Map$Entry"), (55, .class_ 94), (0, u "java/lang/Object"), (34, u "clear"), (0, u "()V")] 132

def k19m0 : Method := { name := "clear", desc := "()V", sig := { parameters := [], returnType := none }, accessFlags := 1025, code := none }
/-- java/util/Map -/
def k19 : Class := { plain "java/util/Map" (some 0) with
  accessFlags := 1537
  interfaces := #[]
  cf := some (fileOf pool19 2 #[.nestMembers #[36]] #[{ accessFlags := 1025, nameIndex := 129, descriptorIndex := 130, attributes := #[] }] 1537 93 #[] #[])
  fields := #[]
  methods := #[k19m0]
  instanceTypes := #[]
  staticTypes := #[]
  resolved := Array.replicate 263 none
  statics := none }

def pool20 : Array CpInfo := pool [(1, .methodref 2 3), (0, .class_ 4), (0, .nameAndType 5 6), (0, u "java/lang/Object"), (0, u "<init>"), (0, u "()V"), (1, .class_ 10), (1, u "java/util/AbstractMap"), (42, .class_ 54), (0, u "java/util/Map"), (9, u "keySet"), (0, u "Ljava/util/Set;"), (0, .class_ 67), (0, u "java/util/AbstractMap$1"), (5, u "values"), (0, u "Ljava/util/Collection;"), (0, .class_ 76), (0, u "java/util/AbstractMap$2"), (104, .class_ 182), (0, u "java/util/AbstractMap$ViewCollection"), (0, .class_ 184), (0, u "java/util/AbstractMap$SimpleImmutableEntry"), (0, .class_ 186), (0, u "java/util/AbstractMap$SimpleEntry"), (0, .class_ 188), (0, u "java/util/AbstractMap$2$1"), (0, .class_ 190), (0, u "java/util/AbstractMap$1$1")] 5

def k20c0 : Code := { maxStack := 1, maxLocals := 1, code := jdk_71_method_1_code, exceptionTable := #[], attributes := #[] }
def k20m0 : Method := { name := "<init>", desc := "()V", sig := { parameters := [], returnType := none }, accessFlags := 4, code := some k20c0 }
/-- java/util/AbstractMap -/
def k20 : Class := { plain "java/util/AbstractMap" (some 0) with
  accessFlags := 1057
  interfaces := #[19]
  cf := some (fileOf pool20 8 #[.nestMembers #[181, 183, 185, 75, 187, 66, 189]] #[{ accessFlags := 4, nameIndex := 5, descriptorIndex := 6, attributes := #[] }] 1057 2 #[53] #[{ accessFlags := 128, nameIndex := 64, descriptorIndex := 65, attributes := #[] }, { accessFlags := 128, nameIndex := 73, descriptorIndex := 74, attributes := #[] }])
  fields := #[{ name := "keySet", type := (.object "java/util/Set"), accessFlags := 128, slot := 0, constantValue := 0 }, { name := "values", type := (.object "java/util/Collection"), accessFlags := 128, slot := 1, constantValue := 0 }]
  methods := #[k20m0]
  instanceTypes := #[(.object "java/util/Set"), (.object "java/util/Collection")]
  staticTypes := #[]
  resolved := Array.replicate 196 none
  statics := none }

def pool21 : Array CpInfo := pool [(40, .class_ 41), (0, u "java/util/HashMap"), (1, .methodref 44 45), (0, .class_ 46), (0, .nameAndType 47 48), (0, u "java/util/AbstractMap"), (0, u "<init>"), (0, u "()V"), (32, .fieldref 40 82), (0, .nameAndType 83 84), (0, u "loadFactor"), (0, u "F"), (5, u "threshold"), (0, u "I"), (0, .float 1061158912), (8, .class_ 103), (1, u "java/util/Map"), (0, u "size"), (0, .fieldref 40 106), (0, .nameAndType 107 108), (0, u "table"), (0, u "[Ljava/util/HashMap$Node;"), (14, u "entrySet"), (39, .class_ 165), (1, u "java/util/HashMap$Node"), (14, .class_ 181), (0, u "java/util/HashMap$TreeNode"), (20, .fieldref 40 203), (0, .nameAndType 204 91), (0, u "modCount"), (37, u "Ljava/util/Set;"), (0, .class_ 244), (0, u "java/util/HashMap$KeySet"), (18, .class_ 264), (0, u "java/util/HashMap$Values"), (3, .class_ 269), (0, u "java/util/HashMap$EntrySet"), (76, .class_ 348), (1, u "java/util/HashMap$UnsafeHolder"), (43, .class_ 393), (0, u "java/lang/Cloneable"), (0, .class_ 395), (0, u "java/io/Serializable"), (0, u "serialVersionUID"), (0, u "J"), (3, u "DEFAULT_INITIAL_CAPACITY"), (1, u "MAXIMUM_CAPACITY"), (0, u "DEFAULT_LOAD_FACTOR"), (0, u "TREEIFY_THRESHOLD"), (1, u "UNTREEIFY_THRESHOLD"), (1, u "MIN_TREEIFY_CAPACITY"), (92, u "clear"), (93, .class_ 597), (0, u "java/util/HashMap$EntrySpliterator"), (0, .class_ 599), (0, u "java/util/HashMap$ValueSpliterator"), (0, .class_ 601), (0, u "java/util/HashMap$KeySpliterator"), (0, .class_ 603), (0, u "java/util/HashMap$HashMapSpliterator"), (0, .class_ 605), (0, u "java/util/HashMap$EntryIterator"), (0, .class_ 607), (0, u "java/util/HashMap$ValueIterator"), (0, .class_ 609), (0, u "java/util/HashMap$KeyIterator"), (0, .class_ 611), (0, u "java/util/HashMap$HashIterator")] 17

def k21c0 : Code := { maxStack := 2, maxLocals := 1, code := jdk_69_method_7_code, exceptionTable := #[], attributes := #[] }
def k21m0 : Method := { name := "<init>", desc := "()V", sig := { parameters := [], returnType := none }, accessFlags := 1, code := some k21c0 }
def k21c1 : Code := { maxStack := 3, maxLocals := 3, code := jdk_69_method_22_code, exceptionTable := #[], attributes := #[] }
def k21m1 : Method := { name := "clear", desc := "()V", sig := { parameters := [], returnType := none }, accessFlags := 1, code := some k21c1 }
/-- java/util/HashMap -/
def k21 : Class := { plain "java/util/HashMap" (some 20) with
  accessFlags := 33
  interfaces := #[19, 16, 4]
  cf := some (fileOf pool21 40 #[.nestMembers #[180, 596, 598, 600, 602, 604, 606, 608, 610, 346, 268, 263, 243, 163]] #[{ accessFlags := 1, nameIndex := 47, descriptorIndex := 48, attributes := #[] }, { accessFlags := 1, nameIndex := 502, descriptorIndex := 48, attributes := #[] }] 33 44 #[101, 392, 394] #[{ accessFlags := 26, nameIndex := 396, descriptorIndex := 397, attributes := #[] }, { accessFlags := 24, nameIndex := 401, descriptorIndex := 91, attributes := #[] }, { accessFlags := 24, nameIndex := 403, descriptorIndex := 91, attributes := #[] }, { accessFlags := 24, nameIndex := 404, descriptorIndex := 84, attributes := #[] }, { accessFlags := 24, nameIndex := 405, descriptorIndex := 91, attributes := #[] }, { accessFlags := 24, nameIndex := 407, descriptorIndex := 91, attributes := #[] }, { accessFlags := 24, nameIndex := 409, descriptorIndex := 91, attributes := #[] }, { accessFlags := 128, nameIndex := 107, descriptorIndex := 108, attributes := #[] }, { accessFlags := 128, nameIndex := 123, descriptorIndex := 242, attributes := #[] }, { accessFlags := 128, nameIndex := 104, descriptorIndex := 91, attributes := #[] }, { accessFlags := 128, nameIndex := 204, descriptorIndex := 91, attributes := #[] }, { accessFlags := 0, nameIndex := 90, descriptorIndex := 91, attributes := #[] }, { accessFlags := 16, nameIndex := 83, descriptorIndex := 84, attributes := #[] }])
  fields := #[{ name := "serialVersionUID", type := .long, accessFlags := 26, slot := 0, constantValue := 0 }, { name := "DEFAULT_INITIAL_CAPACITY", type := .int, accessFlags := 24, slot := 1, constantValue := 0 }, { name := "MAXIMUM_CAPACITY", type := .int, accessFlags := 24, slot := 2, constantValue := 0 }, { name := "DEFAULT_LOAD_FACTOR", type := .float, accessFlags := 24, slot := 3, constantValue := 0 }, { name := "TREEIFY_THRESHOLD", type := .int, accessFlags := 24, slot := 4, constantValue := 0 }, { name := "UNTREEIFY_THRESHOLD", type := .int, accessFlags := 24, slot := 5, constantValue := 0 }, { name := "MIN_TREEIFY_CAPACITY", type := .int, accessFlags := 24, slot := 6, constantValue := 0 }, { name := "table", type := (.array (.object "java/util/HashMap$Node")), accessFlags := 128, slot := 2, constantValue := 0 }, { name := "entrySet", type := (.object "java/util/Set"), accessFlags := 128, slot := 3, constantValue := 0 }, { name := "size", type := .int, accessFlags := 128, slot := 4, constantValue := 0 }, { name := "modCount", type := .int, accessFlags := 128, slot := 5, constantValue := 0 }, { name := "threshold", type := .int, accessFlags := 0, slot := 6, constantValue := 0 }, { name := "loadFactor", type := .float, accessFlags := 16, slot := 7, constantValue := 0 }]
  methods := #[k21m0, k21m1]
  instanceTypes := #[(.object "java/util/Set"), (.object "java/util/Collection"), (.array (.object "java/util/HashMap$Node")), (.object "java/util/Set"), .int, .int, .int, .float]
  staticTypes := #[.long, .int, .int, .float, .int, .int, .int]
  resolved := Array.replicate 629 none
  statics := none }

def pool22 : Array CpInfo := pool [(2, .class_ 4), (1, u "java/util/SequencedMap"), (38, .class_ 44), (0, u "java/util/SequencedMap$1SeqKeySet"), (3, .class_ 49), (0, u "java/util/SequencedMap$1SeqValues"), (1, .class_ 52), (0, u "java/util/SequencedMap$1SeqEntrySet"), (1, .class_ 55), (0, u "java/lang/Object"), (0, .class_ 57), (0, u "java/util/Map")] 48

/-- java/util/SequencedMap -/
def k22 : Class := { plain "java/util/SequencedMap" (some 0) with
  accessFlags := 1537
  interfaces := #[19]
  cf := some (fileOf pool22 2 #[.nestMembers #[51, 48, 43]] #[] 1537 54 #[56] #[])
  fields := #[]
  methods := #[]
  instanceTypes := #[]
  staticTypes := #[]
  resolved := Array.replicate 106 none
  statics := none }

def pool23 : Array CpInfo := pool [(1, .fieldref 2 3), (0, .class_ 4), (0, .nameAndType 5 6), (0, u "java/util/LinkedHashMap"), (0, u "putMode"), (0, u "I"), (0, .fieldref 2 8), (0, .nameAndType 9 10), (0, u "head"), (0, u "Ljava/util/LinkedHashMap$Entry;"), (0, .fieldref 2 12), (0, .nameAndType 13 10), (0, u "tail"), (1, .class_ 17), (1, u "java/util/LinkedHashMap$Entry"), (5, .class_ 25), (1, u "java/util/HashMap"), (1, u "()V"), (2, u "<init>"), (33, .fieldref 2 65), (0, .nameAndType 66 67), (0, u "accessOrder"), (0, u "Z"), (19, .methodref 23 88), (0, .nameAndType 30 27), (21, .methodref 23 111), (0, .nameAndType 112 27), (0, u "clear"), (8, .class_ 122), (0, u "java/util/LinkedHashMap$LinkedKeySet"), (20, .class_ 144), (0, u "java/util/LinkedHashMap$LinkedValues"), (9, .class_ 155), (0, u "java/util/LinkedHashMap$LinkedEntrySet"), (44, .class_ 201), (0, u "java/util/LinkedHashMap$ReversedLinkedHashMapView"), (3, .class_ 206), (0, u "java/util/SequencedMap"), (0, u "serialVersionUID"), (0, u "J"), (5, u "PUT_NORM"), (1, u "PUT_FIRST"), (1, u "PUT_LAST"), (143, .class_ 363), (0, u "java/util/LinkedHashMap$LinkedEntryIterator"), (0, .class_ 365), (0, u "java/util/LinkedHashMap$LinkedValueIterator"), (0, .class_ 367), (0, u "java/util/LinkedHashMap$LinkedKeyIterator"), (0, .class_ 369), (0, u "java/util/LinkedHashMap$LinkedHashIterator")] 16

def k23c0 : Code := { maxStack := 2, maxLocals := 1, code := jdk_94_method_16_code, exceptionTable := #[], attributes := #[] }
def k23m0 : Method := { name := "<init>", desc := "()V", sig := { parameters := [], returnType := none }, accessFlags := 1, code := some k23c0 }
def k23c1 : Code := { maxStack := 4, maxLocals := 1, code := jdk_94_method_22_code, exceptionTable := #[], attributes := #[] }
def k23m1 : Method := { name := "clear", desc := "()V", sig := { parameters := [], returnType := none }, accessFlags := 1, code := some k23c1 }
/-- java/util/LinkedHashMap -/
def k23 : Class := { plain "java/util/LinkedHashMap" (some 21) with
  accessFlags := 33
  interfaces := #[22]
  cf := some (fileOf pool23 2 #[.nestMembers #[200, 362, 364, 366, 368, 154, 143, 121, 15]] #[{ accessFlags := 1, nameIndex := 30, descriptorIndex := 27, attributes := #[] }, { accessFlags := 1, nameIndex := 112, descriptorIndex := 27, attributes := #[] }] 33 23 #[205] #[{ accessFlags := 26, nameIndex := 207, descriptorIndex := 208, attributes := #[] }, { accessFlags := 128, nameIndex := 9, descriptorIndex := 10, attributes := #[] }, { accessFlags := 128, nameIndex := 13, descriptorIndex := 10, attributes := #[] }, { accessFlags := 16, nameIndex := 66, descriptorIndex := 67, attributes := #[] }, { accessFlags := 24, nameIndex := 214, descriptorIndex := 6, attributes := #[] }, { accessFlags := 24, nameIndex := 216, descriptorIndex := 6, attributes := #[] }, { accessFlags := 24, nameIndex := 218, descriptorIndex := 6, attributes := #[] }, { accessFlags := 128, nameIndex := 5, descriptorIndex := 6, attributes := #[] }])
  fields := #[{ name := "serialVersionUID", type := .long, accessFlags := 26, slot := 0, constantValue := 0 }, { name := "head", type := (.object "java/util/LinkedHashMap$Entry"), accessFlags := 128, slot := 8, constantValue := 0 }, { name := "tail", type := (.object "java/util/LinkedHashMap$Entry"), accessFlags := 128, slot := 9, constantValue := 0 }, { name := "accessOrder", type := .boolean, accessFlags := 16, slot := 10, constantValue := 0 }, { name := "PUT_NORM", type := .int, accessFlags := 24, slot := 1, constantValue := 0 }, { name := "PUT_FIRST", type := .int, accessFlags := 24, slot := 2, constantValue := 0 }, { name := "PUT_LAST", type := .int, accessFlags := 24, slot := 3, constantValue := 0 }, { name := "putMode", type := .int, accessFlags := 128, slot := 11, constantValue := 0 }]
  methods := #[k23m0, k23m1]
  instanceTypes := #[(.object "java/util/Set"), (.object "java/util/Collection"), (.array (.object "java/util/HashMap$Node")), (.object "java/util/Set"), .int, .int, .int, .float, (.object "java/util/LinkedHashMap$Entry"), (.object "java/util/LinkedHashMap$Entry"), .boolean, .int]
  staticTypes := #[.long, .int, .int, .int]
  resolved := Array.replicate 386 none
  statics := none }

/-- the primitive byte -/
def k24 : Class := { plain "byte" none with kind := .primitive 'B', accessFlags := 0x411 }
/-- [B -/
def k25 : Class := { plain "[B" (some 0) with kind := .array 24 .byte, interfaces := #[16, 4], accessFlags := 1041 }

/-- the primitive int -/
def k26 : Class := { plain "int" none with kind := .primitive 'I', accessFlags := 0x411 }
/-- [I -/
def k27 : Class := { plain "[I" (some 0) with kind := .array 26 .int, interfaces := #[16, 4], accessFlags := 1041 }

/-- the primitive long -/
def k28 : Class := { plain "long" none with kind := .primitive 'J', accessFlags := 0x411 }
/-- [J -/
def k29 : Class := { plain "[J" (some 0) with kind := .array 28 .long, interfaces := #[16, 4], accessFlags := 1041 }

/-- [Ljava/lang/Object; -/
def k30 : Class := { plain "[Ljava/lang/Object;" (some 0) with kind := .array 0 (.object "java/lang/Object"), interfaces := #[16, 4], accessFlags := 1041 }

def heap : Heap := #[{ cls := 6, slots := #[.ref 2, .ref 3, .ref 4, .ref 5, .null], vm := .statics 6 },
  { cls := 17, slots := #[.long 0, .int 0, .ref 6, .ref 7], vm := .statics 17 },
  { cls := 6, slots := #[.null, .int 0, .int 0], vm := .none },
  { cls := 6, slots := #[.null, .int 1, .int 0], vm := .none },
  { cls := 6, slots := #[.null, .int 2, .int 0], vm := .none },
  { cls := 6, slots := #[.null, .int 3, .int 0], vm := .none },
  { cls := 30, slots := #[], vm := .none },
  { cls := 30, slots := #[], vm := .none }]
def classes : Array Class := #[k0, k1, k2, k3, k4, k5, k6, k7, k8, k9, k10, k11, k12, k13, k14, k15, k16, k17, k18, k19, k20, k21, k22, k23, k24, k25, k26, k27, k28, k29, k30]
def interned : List (Array UInt16 × Addr) := []
def slotsUsed : Nat := 21
def theMethod : MethodId := ⟨1, 2⟩
def args0 : Array Value := #[.long 5, .int 15, .long 7, .long 8]
def aboutOver (below : List Frame) : State where
  vm := { classes := classes, interned := interned.toArray }
  heap := heap
  slotsUsed := slotsUsed
  threads := #[{ frames := .invoking theMethod args0 :: below }]
def below0 : List Frame := [.native { method := ⟨0, 0⟩, args := #[] }]
def about1 : State := aboutOver below0
def p0 : Program := .bare "" "" ""
def e0 : Env := launch0.env 0 0 0
theorem w_frames : about1.frames = Frame.invoking theMethod args0 :: below0 := rfl
set_option maxRecDepth 65536 in
theorem w_args : argsFit about1.vm theMethod args0 = true := by decide +kernel
set_option maxRecDepth 65536 in
theorem w_heap : heapFits about1 = true := by decide +kernel
set_option maxRecDepth 65536 in
theorem w_runnable : about1.curStatus? = some .runnable := by decide +kernel
set_option maxRecDepth 65536 in
theorem w_alone : about1.alone = true := by decide +kernel
set_option maxRecDepth 65536 in
theorem w_named : about1.methodNamed? x = some theMethod := by decide +kernel
set_option maxRecDepth 65536 in
theorem w_hears : about1.hears theMethod below0 = true := by decide +kernel
set_option maxRecDepth 65536 in
theorem w_ripe : about1.ripe theMethod args0 below0 = true := by decide +kernel
theorem w_running : about1.status = .running := rfl
set_option maxRecDepth 65536 in
theorem w_room : about1.hasRoom e0.platform room_1 = true :=
  launch0.hasRoom_least _ room_1 (by decide +kernel) (by decide +kernel) (by decide +kernel) (by decide +kernel) (by decide +kernel) (by decide +kernel)
theorem allAtoms_all (ts : List Jvm.Cond) (a : Array Jvm.Value) (st : Jvm.State) : (allAtoms ts).before a st = ts.all (fun c => c.before a st) := by
  induction ts with
  | nil => rfl
  | cons c t ih =>
    show (Jvm.Cond.and c (allAtoms t)).before a st = _
    rw [Jvm.Cond.before_and, ih, List.all_cons]
def words1 : List Jvm.Cond := Jvm.Cond.code x code maxLocals ret :: tables_1
/-- a 'code' word, met by the world's own term for the bytes: nothing is compared byte by byte -/
theorem code_word {y : MethodName} {bytes : ByteArray} {mx : Nat} {rt : Option FieldType} {a : Array Value} {s : State} {m : MethodId} {meth : Method} {c : Code} (h1 : s.methodNamed? y = some m) (h2 : s.vm.method? m = some meth) (h3 : meth.code = some c) (h4 : c.code = bytes)
    (h5 : (c.maxLocals == mx && c.exceptionTable.isEmpty && decide (c.maxStack ≤ mostOperands) && decide (meth.sig.returnType = rt) && !meth.locks && decide (parseMethodDescriptor y.desc = some meth.sig)) = true) : (Jvm.Cond.code y bytes mx rt).before a s = true := by
  simp only [Bool.and_eq_true, beq_iff_eq, Bool.not_eq_true', decide_eq_true_eq] at h5
  obtain ⟨⟨⟨⟨⟨g1, g2⟩, g3⟩, g4⟩, g5⟩, g6⟩ := h5
  simp [Cond.before, Cond.holds, Cond.value, h1, h2, h3, h4, g1, g2, g3, g4, g5, g6]
def isCode : Jvm.Cond → Bool
  | .code _ _ _ _ => true
  | _ => false
theorem all_split {L : List Jvm.Cond} {P : Jvm.Cond → Bool} (h1 : L.all (fun c => isCode c || P c) = true) (h2 : ∀ c ∈ L.filter isCode, P c = true) : L.all P = true := by
  refine List.all_eq_true.mpr fun c hc => ?_
  have h := List.all_eq_true.mp h1 c hc
  rcases Bool.eq_false_or_eq_true (isCode c) with hi | hi
  · exact h2 c (List.mem_filter.mpr ⟨hc, hi⟩)
  · simpa [hi] using h
set_option maxRecDepth 65536 in
theorem w_c0 : (Jvm.Cond.code x code maxLocals ret).before args0 about1 = true := code_word (m := ⟨1, 2⟩) (meth := k1m2) (c := k1c2) (by decide +kernel) rfl rfl rfl (by decide +kernel)
set_option maxRecDepth 65536 in
theorem w_c1 : (Jvm.Cond.code ({ cls := "com/example/interleave/interleave/engine/TransactionCommittedByPinLaw", name := "level", desc := "(I)Lcom/example/interleave/interleave/sql/IsolationLevel;" } : Jvm.MethodName) method_2_code (1 : Nat) (Option.some (Jvm.ClassFile.FieldType.object "com/example/interleave/interleave/sql/IsolationLevel"))).before args0 about1 = true := code_word (m := ⟨1, 1⟩) (meth := k1m1) (c := k1c1) (by decide +kernel) rfl rfl rfl (by decide +kernel)
set_option maxRecDepth 65536 in
theorem w_c2 : (Jvm.Cond.code ({ cls := "com/example/interleave/interleave/engine/Transaction", name := "<init>", desc := "(JLcom/example/interleave/interleave/sql/IsolationLevel;Z)V" } : Jvm.MethodName) prog_55_method_1_code (5 : Nat) (Option.none : Option Jvm.ClassFile.FieldType)).before args0 about1 = true := code_word (m := ⟨7, 0⟩) (meth := k7m0) (c := k7c0) (by decide +kernel) rfl rfl rfl (by decide +kernel)
set_option maxRecDepth 65536 in
theorem w_c3 : (Jvm.Cond.code ({ cls := "java/lang/Object", name := "<init>", desc := "()V" } : Jvm.MethodName) object_method_1_code (1 : Nat) (Option.none : Option Jvm.ClassFile.FieldType)).before args0 about1 = true := code_word (m := ⟨0, 0⟩) (meth := k0m0) (c := k0c0) (by decide +kernel) rfl rfl rfl (by decide +kernel)
set_option maxRecDepth 65536 in
theorem w_c4 : (Jvm.Cond.code ({ cls := "com/example/interleave/interleave/engine/UndoLog", name := "<init>", desc := "()V" } : Jvm.MethodName) prog_57_method_1_code (1 : Nat) (Option.none : Option Jvm.ClassFile.FieldType)).before args0 about1 = true := code_word (m := ⟨8, 0⟩) (meth := k8m0) (c := k8c0) (by decide +kernel) rfl rfl rfl (by decide +kernel)
set_option maxRecDepth 65536 in
theorem w_c5 : (Jvm.Cond.code ({ cls := "java/util/ArrayList", name := "<init>", desc := "()V" } : Jvm.MethodName) jdk_38_method_2_code (1 : Nat) (Option.none : Option Jvm.ClassFile.FieldType)).before args0 about1 = true := code_word (m := ⟨17, 0⟩) (meth := k17m0) (c := k17c0) (by decide +kernel) rfl rfl rfl (by decide +kernel)
set_option maxRecDepth 65536 in
theorem w_c6 : (Jvm.Cond.code ({ cls := "java/util/AbstractList", name := "<init>", desc := "()V" } : Jvm.MethodName) jdk_39_method_1_code (1 : Nat) (Option.none : Option Jvm.ClassFile.FieldType)).before args0 about1 = true := code_word (m := ⟨14, 0⟩) (meth := k14m0) (c := k14c0) (by decide +kernel) rfl rfl rfl (by decide +kernel)
set_option maxRecDepth 65536 in
theorem w_c7 : (Jvm.Cond.code ({ cls := "java/util/AbstractCollection", name := "<init>", desc := "()V" } : Jvm.MethodName) jdk_22_method_1_code (1 : Nat) (Option.none : Option Jvm.ClassFile.FieldType)).before args0 about1 = true := code_word (m := ⟨11, 0⟩) (meth := k11m0) (c := k11c0) (by decide +kernel) rfl rfl rfl (by decide +kernel)
set_option maxRecDepth 65536 in
theorem w_c8 : (Jvm.Cond.code ({ cls := "java/util/BitSet", name := "<init>", desc := "()V" } : Jvm.MethodName) jdk_92_method_4_code (1 : Nat) (Option.none : Option Jvm.ClassFile.FieldType)).before args0 about1 = true := code_word (m := ⟨18, 1⟩) (meth := k18m1) (c := k18c1) (by decide +kernel) rfl rfl rfl (by decide +kernel)
set_option maxRecDepth 65536 in
theorem w_c9 : (Jvm.Cond.code ({ cls := "java/util/BitSet", name := "initWords", desc := "(I)V" } : Jvm.MethodName) jdk_92_method_6_code (2 : Nat) (Option.none : Option Jvm.ClassFile.FieldType)).before args0 about1 = true := code_word (m := ⟨18, 2⟩) (meth := k18m2) (c := k18c2) (by decide +kernel) rfl rfl rfl (by decide +kernel)
set_option maxRecDepth 65536 in
theorem w_c10 : (Jvm.Cond.code ({ cls := "java/util/BitSet", name := "wordIndex", desc := "(I)I" } : Jvm.MethodName) jdk_92_method_1_code (1 : Nat) (Option.some Jvm.ClassFile.FieldType.int)).before args0 about1 = true := code_word (m := ⟨18, 0⟩) (meth := k18m0) (c := k18c0) (by decide +kernel) rfl rfl rfl (by decide +kernel)
set_option maxRecDepth 65536 in
theorem w_c11 : (Jvm.Cond.code ({ cls := "java/util/LinkedHashMap", name := "<init>", desc := "()V" } : Jvm.MethodName) jdk_94_method_16_code (1 : Nat) (Option.none : Option Jvm.ClassFile.FieldType)).before args0 about1 = true := code_word (m := ⟨23, 0⟩) (meth := k23m0) (c := k23c0) (by decide +kernel) rfl rfl rfl (by decide +kernel)
set_option maxRecDepth 65536 in
theorem w_c12 : (Jvm.Cond.code ({ cls := "java/util/HashMap", name := "<init>", desc := "()V" } : Jvm.MethodName) jdk_69_method_7_code (1 : Nat) (Option.none : Option Jvm.ClassFile.FieldType)).before args0 about1 = true := code_word (m := ⟨21, 0⟩) (meth := k21m0) (c := k21c0) (by decide +kernel) rfl rfl rfl (by decide +kernel)
set_option maxRecDepth 65536 in
theorem w_c13 : (Jvm.Cond.code ({ cls := "java/util/AbstractMap", name := "<init>", desc := "()V" } : Jvm.MethodName) jdk_71_method_1_code (1 : Nat) (Option.none : Option Jvm.ClassFile.FieldType)).before args0 about1 = true := code_word (m := ⟨20, 0⟩) (meth := k20m0) (c := k20c0) (by decide +kernel) rfl rfl rfl (by decide +kernel)
set_option maxRecDepth 65536 in
theorem w_c14 : (Jvm.Cond.code ({ cls := "com/example/interleave/interleave/engine/Transaction", name := "committedBy", desc := "(J)Z" } : Jvm.MethodName) prog_55_method_19_code (3 : Nat) (Option.some Jvm.ClassFile.FieldType.boolean)).before args0 about1 = true := code_word (m := ⟨7, 2⟩) (meth := k7m2) (c := k7c2) (by decide +kernel) rfl rfl rfl (by decide +kernel)
set_option maxRecDepth 65536 in
theorem w_c15 : (Jvm.Cond.code ({ cls := "com/example/interleave/interleave/engine/Transaction", name := "commit", desc := "(J)V" } : Jvm.MethodName) prog_55_method_18_code (3 : Nat) (Option.none : Option Jvm.ClassFile.FieldType)).before args0 about1 = true := code_word (m := ⟨7, 1⟩) (meth := k7m1) (c := k7c1) (by decide +kernel) rfl rfl rfl (by decide +kernel)
set_option maxRecDepth 65536 in
theorem w_c16 : (Jvm.Cond.code ({ cls := "com/example/interleave/interleave/engine/UndoLog", name := "clear", desc := "()V" } : Jvm.MethodName) prog_57_method_6_code (1 : Nat) (Option.none : Option Jvm.ClassFile.FieldType)).before args0 about1 = true := code_word (m := ⟨8, 1⟩) (meth := k8m1) (c := k8c1) (by decide +kernel) rfl rfl rfl (by decide +kernel)
set_option maxRecDepth 65536 in
theorem w_c17 : (Jvm.Cond.code ({ cls := "java/util/ArrayList", name := "clear", desc := "()V" } : Jvm.MethodName) jdk_38_method_40_code (4 : Nat) (Option.none : Option Jvm.ClassFile.FieldType)).before args0 about1 = true := code_word (m := ⟨17, 1⟩) (meth := k17m1) (c := k17c1) (by decide +kernel) rfl rfl rfl (by decide +kernel)
set_option maxRecDepth 65536 in
theorem w_c18 : (Jvm.Cond.code ({ cls := "java/util/BitSet", name := "clear", desc := "()V" } : Jvm.MethodName) jdk_92_method_25_code (1 : Nat) (Option.none : Option Jvm.ClassFile.FieldType)).before args0 about1 = true := code_word (m := ⟨18, 3⟩) (meth := k18m3) (c := k18c3) (by decide +kernel) rfl rfl rfl (by decide +kernel)
set_option maxRecDepth 65536 in
theorem w_c19 : (Jvm.Cond.code ({ cls := "java/util/LinkedHashMap", name := "clear", desc := "()V" } : Jvm.MethodName) jdk_94_method_22_code (1 : Nat) (Option.none : Option Jvm.ClassFile.FieldType)).before args0 about1 = true := code_word (m := ⟨23, 1⟩) (meth := k23m1) (c := k23c1) (by decide +kernel) rfl rfl rfl (by decide +kernel)
set_option maxRecDepth 65536 in
theorem w_c20 : (Jvm.Cond.code ({ cls := "java/util/HashMap", name := "clear", desc := "()V" } : Jvm.MethodName) jdk_69_method_22_code (3 : Nat) (Option.none : Option Jvm.ClassFile.FieldType)).before args0 about1 = true := code_word (m := ⟨21, 1⟩) (meth := k21m1) (c := k21c1) (by decide +kernel) rfl rfl rfl (by decide +kernel)
def codes1 : List Jvm.Cond := [Jvm.Cond.code x code maxLocals ret, Jvm.Cond.code ({ cls := "com/example/interleave/interleave/engine/TransactionCommittedByPinLaw", name := "level", desc := "(I)Lcom/example/interleave/interleave/sql/IsolationLevel;" } : Jvm.MethodName) method_2_code (1 : Nat) (Option.some (Jvm.ClassFile.FieldType.object "com/example/interleave/interleave/sql/IsolationLevel")), Jvm.Cond.code ({ cls := "com/example/interleave/interleave/engine/Transaction", name := "<init>", desc := "(JLcom/example/interleave/interleave/sql/IsolationLevel;Z)V" } : Jvm.MethodName) prog_55_method_1_code (5 : Nat) (Option.none : Option Jvm.ClassFile.FieldType), Jvm.Cond.code ({ cls := "java/lang/Object", name := "<init>", desc := "()V" } : Jvm.MethodName) object_method_1_code (1 : Nat) (Option.none : Option Jvm.ClassFile.FieldType), Jvm.Cond.code ({ cls := "com/example/interleave/interleave/engine/UndoLog", name := "<init>", desc := "()V" } : Jvm.MethodName) prog_57_method_1_code (1 : Nat) (Option.none : Option Jvm.ClassFile.FieldType), Jvm.Cond.code ({ cls := "java/util/ArrayList", name := "<init>", desc := "()V" } : Jvm.MethodName) jdk_38_method_2_code (1 : Nat) (Option.none : Option Jvm.ClassFile.FieldType), Jvm.Cond.code ({ cls := "java/util/AbstractList", name := "<init>", desc := "()V" } : Jvm.MethodName) jdk_39_method_1_code (1 : Nat) (Option.none : Option Jvm.ClassFile.FieldType), Jvm.Cond.code ({ cls := "java/util/AbstractCollection", name := "<init>", desc := "()V" } : Jvm.MethodName) jdk_22_method_1_code (1 : Nat) (Option.none : Option Jvm.ClassFile.FieldType), Jvm.Cond.code ({ cls := "java/util/BitSet", name := "<init>", desc := "()V" } : Jvm.MethodName) jdk_92_method_4_code (1 : Nat) (Option.none : Option Jvm.ClassFile.FieldType), Jvm.Cond.code ({ cls := "java/util/BitSet", name := "initWords", desc := "(I)V" } : Jvm.MethodName) jdk_92_method_6_code (2 : Nat) (Option.none : Option Jvm.ClassFile.FieldType), Jvm.Cond.code ({ cls := "java/util/BitSet", name := "wordIndex", desc := "(I)I" } : Jvm.MethodName) jdk_92_method_1_code (1 : Nat) (Option.some Jvm.ClassFile.FieldType.int), Jvm.Cond.code ({ cls := "java/util/LinkedHashMap", name := "<init>", desc := "()V" } : Jvm.MethodName) jdk_94_method_16_code (1 : Nat) (Option.none : Option Jvm.ClassFile.FieldType), Jvm.Cond.code ({ cls := "java/util/HashMap", name := "<init>", desc := "()V" } : Jvm.MethodName) jdk_69_method_7_code (1 : Nat) (Option.none : Option Jvm.ClassFile.FieldType), Jvm.Cond.code ({ cls := "java/util/AbstractMap", name := "<init>", desc := "()V" } : Jvm.MethodName) jdk_71_method_1_code (1 : Nat) (Option.none : Option Jvm.ClassFile.FieldType), Jvm.Cond.code ({ cls := "com/example/interleave/interleave/engine/Transaction", name := "committedBy", desc := "(J)Z" } : Jvm.MethodName) prog_55_method_19_code (3 : Nat) (Option.some Jvm.ClassFile.FieldType.boolean), Jvm.Cond.code ({ cls := "com/example/interleave/interleave/engine/Transaction", name := "commit", desc := "(J)V" } : Jvm.MethodName) prog_55_method_18_code (3 : Nat) (Option.none : Option Jvm.ClassFile.FieldType), Jvm.Cond.code ({ cls := "com/example/interleave/interleave/engine/UndoLog", name := "clear", desc := "()V" } : Jvm.MethodName) prog_57_method_6_code (1 : Nat) (Option.none : Option Jvm.ClassFile.FieldType), Jvm.Cond.code ({ cls := "java/util/ArrayList", name := "clear", desc := "()V" } : Jvm.MethodName) jdk_38_method_40_code (4 : Nat) (Option.none : Option Jvm.ClassFile.FieldType), Jvm.Cond.code ({ cls := "java/util/BitSet", name := "clear", desc := "()V" } : Jvm.MethodName) jdk_92_method_25_code (1 : Nat) (Option.none : Option Jvm.ClassFile.FieldType), Jvm.Cond.code ({ cls := "java/util/LinkedHashMap", name := "clear", desc := "()V" } : Jvm.MethodName) jdk_94_method_22_code (1 : Nat) (Option.none : Option Jvm.ClassFile.FieldType), Jvm.Cond.code ({ cls := "java/util/HashMap", name := "clear", desc := "()V" } : Jvm.MethodName) jdk_69_method_22_code (3 : Nat) (Option.none : Option Jvm.ClassFile.FieldType)]
set_option maxRecDepth 65536 in
theorem codes_eq : words1.filter isCode = codes1 := rfl
theorem w_codes : ∀ c ∈ words1.filter isCode, c.before args0 about1 = true := by
  rw [codes_eq]
  intro c hc
  simp only [codes1, List.mem_cons, List.not_mem_nil, or_false] at hc
  rcases hc with rfl | rfl | rfl | rfl | rfl | rfl | rfl | rfl | rfl | rfl | rfl | rfl | rfl | rfl | rfl | rfl | rfl | rfl | rfl | rfl | rfl
  · exact w_c0
  · exact w_c1
  · exact w_c2
  · exact w_c3
  · exact w_c4
  · exact w_c5
  · exact w_c6
  · exact w_c7
  · exact w_c8
  · exact w_c9
  · exact w_c10
  · exact w_c11
  · exact w_c12
  · exact w_c13
  · exact w_c14
  · exact w_c15
  · exact w_c16
  · exact w_c17
  · exact w_c18
  · exact w_c19
  · exact w_c20
set_option maxRecDepth 65536 in
theorem w_t1 : (words1.take 24).all (fun c => isCode c || c.before args0 about1) = true := by decide +kernel
set_option maxRecDepth 65536 in
theorem w_t2 : ((words1.drop 24).take 24).all (fun c => isCode c || c.before args0 about1) = true := by decide +kernel
set_option maxRecDepth 65536 in
theorem w_t3 : (((words1.drop 24).drop 24).take 24).all (fun c => isCode c || c.before args0 about1) = true := by decide +kernel
set_option maxRecDepth 65536 in
theorem w_t4 : ((((words1.drop 24).drop 24).drop 24).take 24).all (fun c => isCode c || c.before args0 about1) = true := by decide +kernel
set_option maxRecDepth 65536 in
theorem w_t5 : (((((words1.drop 24).drop 24).drop 24).drop 24).take 24).all (fun c => isCode c || c.before args0 about1) = true := by decide +kernel
set_option maxRecDepth 65536 in
theorem w_t6 : ((((((words1.drop 24).drop 24).drop 24).drop 24).drop 24).take 24).all (fun c => isCode c || c.before args0 about1) = true := by decide +kernel
set_option maxRecDepth 65536 in
theorem w_t7 : (((((((words1.drop 24).drop 24).drop 24).drop 24).drop 24).drop 24).take 24).all (fun c => isCode c || c.before args0 about1) = true := by decide +kernel
set_option maxRecDepth 65536 in
theorem w_t8 : (((((((words1.drop 24).drop 24).drop 24).drop 24).drop 24).drop 24).drop 24).all (fun c => isCode c || c.before args0 about1) = true := by decide +kernel
theorem w_tables : (allAtoms (Jvm.Cond.code x code maxLocals ret :: tables_1)).before args0 about1 = true := by
  rw [allAtoms_all]
  show words1.all (fun c => c.before args0 about1) = true
  refine all_split ?_ w_codes
  rw [← List.take_append_drop 24 words1, List.all_append, w_t1, ← List.take_append_drop 24 (words1.drop 24), List.all_append, w_t2, ← List.take_append_drop 24 ((words1.drop 24).drop 24), List.all_append, w_t3, ← List.take_append_drop 24 (((words1.drop 24).drop 24).drop 24), List.all_append, w_t4, ← List.take_append_drop 24 ((((words1.drop 24).drop 24).drop 24).drop 24), List.all_append, w_t5, ← List.take_append_drop 24 (((((words1.drop 24).drop 24).drop 24).drop 24).drop 24), List.all_append, w_t6, ← List.take_append_drop 24 ((((((words1.drop 24).drop 24).drop 24).drop 24).drop 24).drop 24), List.all_append, w_t7, w_t8]
  rfl
set_option maxRecDepth 65536 in
theorem w_rest : rest_1_c.before args0 about1 = true := by decide +kernel
set_option maxRecDepth 65536 in
theorem w_case : (Jvm.Cond.and given_1 narrow_1).before args0 about1 = true := by decide +kernel
theorem w_applies : (headSpec (Jvm.Cond.code x code maxLocals ret :: tables_1) room_1).applies x e0.platform about1 = true :=
  (Spec.applies_iff w_frames).mpr ⟨w_running, w_runnable, w_alone, w_named, w_hears, w_ripe, w_room, w_tables⟩
theorem atStart : AtStart classFile x code maxLocals ret World_1 tables_1 room_1 Calls_1 rest_1 Pre_1 launch0 p0 e0 about1 theMethod args0 below0 :=
  ⟨lists_1, trivial, launch0.admits_env _ _ _, launch0.least_env, fairChoices_fair.cas, fairChoices_fair.clock, w_frames, w_args, w_heap, w_applies, trivial, w_rest, w_case⟩
end start1
theorem witness_1 : WitnessClaimed_1 := ⟨start1.p0, start1.e0, start1.about1, start1.theMethod, start1.args0, start1.below0, start1.atStart⟩
end Jvm.Pilot.@@N@@
