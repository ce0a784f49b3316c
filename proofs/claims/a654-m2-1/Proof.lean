import JvmDerived
import JvmDerived.Pilot.@@N@@Statement
import JvmDerived.Pilot.@@N@@Code
set_option linter.unusedVariables false
set_option linter.unusedSimpArgs false
namespace Jvm.Pilot.@@N@@
open Jvm Jvm.ClassFile Sem Op Lib Jvm.Free Jvm.Stand Jvm.LawKit Jvm.RoadKit Bundle Jvm.Pilot.@@N@@.Jvm.D
section OwnBase
variable {tb : Tables} {e : Env} {below : List Frame} {A B : State} {K : State → Outcome → Prop}
/-- from A the run comes to an end of which K holds -/
def own_Ends (tb : Tables) (e : Env) (below : List Frame) (A : State) (K : State → Outcome → Prop) : Prop := ∃ t o, Steps tb e below A t ∧ K t o
theorem own_open {P : State → Outcome → Prop} (h : ∀ K : State → Outcome → Prop, (∀ t o, P t o → K t o) → own_Ends tb e below A K) : ∃ t o, Steps tb e below A t ∧ P t o := h P fun _ _ q => q
theorem own_go (h : ∀ t, Steps tb e below B t → Steps tb e below A t) (k : own_Ends tb e below B K) : own_Ends tb e below A K := by
  obtain ⟨t, o, h1, h2⟩ := k; exact ⟨t, o, h t h1, h2⟩
theorem own_n0 {Z : State} {n0 : Nat} {h : Heap} (O : Old Z n0 h) : n0 ≤ h.size := O.1 ▸ O.2.1
theorem own_bt {P : Prop} [Decidable P] (h : P) : ¬ ((if P then (1 : Int32) else 0) = 0) := by rw [if_pos h]; decide
theorem own_bf {P : Prop} [Decidable P] (h : ¬ P) : (if P then (1 : Int32) else 0) = 0 := by rw [if_neg h]
theorem own_lt_n0 {Z : State} {n0 : Nat} {h : Heap} {a : Addr} (O : Old Z n0 h) (q : a < Z.heap.size) : a < n0 := O.1 ▸ q
section OwnRet
variable {p : Program} {l : Launch} {R : Room} {s : State} {m : MethodId} {args : Array Value} {meth : Method} {c : Code} {T : State} {locs : List Loc} {cells slots : Nat}
theorem own_retI (X : Stand p l e R s m args below meth c T locs cells slots) (hx : p.tables.exec = Jvm.exec) {pc : Nat} {Ls : Array Slot} {z : Int32} {rest : List Value} (hret : meth.sig.returnType = some .int) (hd : decode c.code pc = .ok (.ireturn, 1)) {fs : List Frame}
    (hl : ∀ (f : JFrame) (acts : List Action), f.method = m → f.locked = none → f.entered = [] → (doReturn e (T.setTop f) acts (some (.int z))).1 = T.setFrames fs) : Steps p.tables e below (T.setTop (mkF m pc Ls (.int z :: rest))) (T.setFrames fs) :=
  retOut X hx hret rfl (Or.inl ⟨rfl, Or.inl rfl, z, rfl⟩) hd hl
theorem own_retL (X : Stand p l e R s m args below meth c T locs cells slots) (hx : p.tables.exec = Jvm.exec) {pc : Nat} {Ls : Array Slot} {z : Int64} {rest : List Value} (hret : meth.sig.returnType = some .long) (hd : decode c.code pc = .ok (.lreturn, 1)) {fs : List Frame}
    (hl : ∀ (f : JFrame) (acts : List Action), f.method = m → f.locked = none → f.entered = [] → (doReturn e (T.setTop f) acts (some (.long z))).1 = T.setFrames fs) : Steps p.tables e below (T.setTop (mkF m pc Ls (.long z :: rest))) (T.setFrames fs) :=
  retOut X hx hret rfl (Or.inr (Or.inl ⟨rfl, rfl, z, rfl⟩)) hd hl
theorem own_retA (X : Stand p l e R s m args below meth c T locs cells slots) (hx : p.tables.exec = Jvm.exec) {pc : Nat} {Ls : Array Slot} {w : Value} {t : FieldType} {rest : List Value} (hret : meth.sig.returnType = some t) (ht : t.isReference = true) (hw : w.isRef = true) (hd : decode c.code pc = .ok (.areturn, 1)) {fs : List Frame}
    (hl : ∀ (f : JFrame) (acts : List Action), f.method = m → f.locked = none → f.entered = [] → (doReturn e (T.setTop f) acts (some w)).1 = T.setFrames fs) : Steps p.tables e below (T.setTop (mkF m pc Ls (w :: rest))) (T.setFrames fs) := by
  have hn : narrow t w = w := by cases t <;> first | rfl | exact Bool.noConfusion ht
  exact retOut X hx hret hn (Or.inr (Or.inr (Or.inr (Or.inr ⟨rfl, ht, hw⟩)))) hd hl
end OwnRet
end OwnBase
theorem own_fldI {Z : State} {args : Array Value} {t : Term} {C n d : String} {x : Addr} {k : Int32} (ev : t.eval args Z none [] Z = some (.ref x)) (h : (Jvm.Cond.eq (Term.field t C n d) (Term.int k)).value args Z none Z [] = some true) : Fld Z Z.heap x C n d (.int k) := by
  apply Fld.start
  rw [← fld_at (t := t) (args := args) (first := Z) (o := none) (idx := []) ev]
  obtain ⟨y, z, h1, h2, -, -⟩ := cmp_v (Or.inl h)
  have h3 : z = .int k := Option.some.inj (h2.symm.trans (Term.int_eval k))
  subst h3
  rw [h1]
  simp only [Jvm.Cond.value] at h
  rw [h1, h2] at h
  cases y <;> simp at h ⊢
  exact h

section OwnBase654
/-- superclass by superclass, up to the top -/
def own_Chain (Z : State) (a0 : Array Value) : List String → Prop
  | [] => False
  | [c] => (Jvm.Cond.noSuperclass c).before a0 Z = true
  | c :: d :: r => (Jvm.Cond.superclass c d).before a0 Z = true ∧ own_Chain Z a0 (d :: r)
theorem own_clsNe {Z : State} {C D : String} {x y : ClassId} (p : Z.vm.findClass C = some x) (q : Z.vm.findClass D = some y) (r : C ≠ D) : x ≠ y := fun e => by
  subst e
  obtain ⟨k1, a1, a2⟩ := Vm.findClass_spec p
  obtain ⟨k2, b1, b2⟩ := Vm.findClass_spec q
  cases a1.symm.trans b1
  exact r (a2.symm.trans b2)
theorem own_noSub {Z : State} {a0 : Array Value} {K : String} {cK : ClassId} (hK : Z.vm.findClass K = some cK) : ∀ (L : List String) (c : String) (id : ClassId), own_Chain Z a0 (c :: L) → (∀ x ∈ c :: L, x ≠ K) → Z.vm.findClass c = some id → ∀ fuel, Z.vm.isSubclassAux fuel id cK = false
  | [], c, id, hc, hn, hf, 0 => rfl
  | [], c, id, hc, hn, hf, fuel + 1 => by
    obtain ⟨c', k, f1, g1, s1, -, -⟩ := Cond.noSuperclass_spec (show (Jvm.Cond.noSuperclass c).before a0 Z = true from hc)
    cases hf.symm.trans f1
    have d := own_clsNe hf hK (hn c (by simp))
    simp [Vm.isSubclassAux, d, g1, s1]
  | e :: L, c, id, hc, hn, hf, 0 => rfl
  | e :: L, c, id, hc, hn, hf, fuel + 1 => by
    obtain ⟨cs, k, ks, f1, g1, g2, s1, -, -, -⟩ := Cond.superclass_spec hf (show (Jvm.Cond.superclass c e).before a0 Z = true from hc.1)
    have d := own_clsNe hf hK (hn c (by simp))
    have ih := own_noSub hK L e cs hc.2 (fun x hx => hn x (List.mem_cons_of_mem _ hx)) f1 fuel
    simp [Vm.isSubclassAux, d, g1, s1, ih]
/-- K names a class that is no interface -/
def own_Cls (Z : State) (K : String) : Prop := ∃ (cK : ClassId) (kK : Class), Z.vm.findClass K = some cK ∧ Z.vm.classes[cK]? = some kK ∧ kK.kind = .ordinary ∧ kK.isInterface = false
theorem own_Cls.ofI {Z : State} {a0 : Array Value} {K : String} {n : Nat} (w : (Jvm.Cond.instantiable K n).before a0 Z = true) : own_Cls Z K := by
  obtain ⟨cK, kK, i1, i2, i3, i4, -, -⟩ := Cond.instantiable_spec w
  exact ⟨cK, kK, i1, i2, i3, (Bool.or_eq_false_iff.mp i4).1⟩
theorem own_Cls.ofS {Z : State} {a0 : Array Value} {K S : String} (w : (Jvm.Cond.superclass K S).before a0 Z = true) : own_Cls Z K := by
  obtain ⟨c, hc⟩ := Jvm.Free.HMB.found_of_superclass w
  obtain ⟨cs, k, ks, f1, g1, g2, s1, o1, -, i1⟩ := Cond.superclass_spec hc w
  exact ⟨c, k, hc, g1, o1, i1⟩
theorem own_noIns {Z : State} {a0 : Array Value} {h : Heap} {a : Addr} {C D K : String} {L : List String} (E : Exa Z h a C) (hc : own_Chain Z a0 (C :: D :: L)) (hn : ∀ x ∈ C :: D :: L, x ≠ K) (hK : own_Cls Z K) : Ins Z h a K false := by
  obtain ⟨cell, k, h1, h2, h3, h4, -⟩ := E
  obtain ⟨cK, kK, i1, i2, i3, i4⟩ := hK
  obtain ⟨cs, k', ks, f1, g1, g2, s1, o1, -, -⟩ := Cond.superclass_spec h2 (show (Jvm.Cond.superclass C D).before a0 Z = true from hc.1)
  have sub := own_noSub i1 (D :: L) C cell.cls hc hn h2
  have d := own_clsNe h2 i1 (hn C (by simp))
  refine ⟨cell, cK, h1, i1, ?_⟩
  have : Z.vm.assignableAux (255 + 1) cell.cls cK = false := by simp [Vm.assignableAux, d, g1, i2, o1, i3, i4, Vm.isSubclass, sub]
  have e : Z.vm.assignable cell.cls cK = false := this
  simp [e]
/-- the class's mirror -/
def own_Mir (Z : State) (C : String) (a : Addr) : Prop := ∃ (c : ClassId) (k : Class), Z.vm.findClass C = some c ∧ Z.vm.classes[c]? = some k ∧ k.mirror = some a
theorem own_Mir.s {Z s : State} {C : String} {a : Addr} (M : own_Mir Z C a) (hZ : Z.Warmed39 s.vm) : own_Mir s C a := by
  obtain ⟨c, k, h1, h2, h3⟩ := M
  obtain ⟨k', hk', he⟩ := hZ.alike.2.2 _ _ h2
  exact ⟨c, k', by rw [hZ.alike.findClass]; exact h1, hk', by rw [he]; exact h3⟩
theorem own_Mir.ev {s : State} {C : String} {a : Addr} {args : Array Value} (M : own_Mir s C a) : (Term.mirror C).eval args s none [] s = some (.ref a) := by
  obtain ⟨c, k, h1, h2, h3⟩ := M
  simp [Term.eval, h1, h2, h3]
variable {p : Program} {l : Launch} {e : Env} {R : Room} {s : State} {m : MethodId} {args : Array Value} {below : List Frame} {meth : Method} {c : Code} {T : State} {locs : List Loc} {cells slots : Nat} {Z : State} {a0 : Array Value} {h : Heap}
/-- anewarray, and which class the array is of -/
theorem own_newR (X : Stand p l e R s m args below meth c T locs cells slots) (hx : p.tables.exec = Jvm.exec) (hZ : Z.Warmed39 s.vm) {own C A : String} {index : Nat} (hA : "[" ++ (FieldType.object C).toString = A) (hown : s.vm.findClass own = some m.cls) (w1 : (Jvm.Cond.classLink own index C).before a0 Z = true) (w2 : (Jvm.Cond.arrayOver (.object C)).before a0 Z = true)
    (eT : T.heap = h) {g : JFrame} (hg : g.method = m) (hd : decode c.code g.pc = .ok (.anewarray index, 3)) {n : Int32} {rest : List Value} (hs : g.stack = .int n :: rest) (hn : ¬ n < 0) {cap : Nat} (hcap : n.toNatClampNeg ≤ cap) (hb : cap * 8 ≤ 536870912) (hc : cells + 1 ≤ R.cells) (hl : slots + cap ≤ R.slots) :
    ∃ T' h' cA, Stand p l e R s m args below meth c T' locs (cells + 1) (slots + cap) ∧ T'.heap = h' ∧ Ext h h' ∧ Arr Z h' h.size (newA cA (.object C) n) (.object C) ∧ Ovr Z cA C ∧ Exa Z h' h.size A ∧
      ∀ target, Steps p.tables e below (T'.setTop { g with pc := g.pc + 3, stack := .ref h.size :: rest }) target → Steps p.tables e below (T.setTop g) target := by
  subst hA eT
  obtain ⟨vm1, cA, kA, comp, -, f1, f2, f3, f4, X', st⟩ := X.anewarrayRefK hx hown (mvT hZ w1) (Cond.arrayOver_alike hZ.alike w2) hg hd hs hn (by omega) hc (by omega)
  rw [hZ.alike.findClass] at f1 f4
  obtain ⟨kZ, z1, -⟩ := Vm.findClass_spec f1
  obtain ⟨k', z2, z3⟩ := hZ.alike.2.2 _ _ z1
  cases f2.symm.trans z2
  have hk : kZ.kind = .array comp (.object C) := by rw [← f3, z3]
  have hcell : (T.heap.push { cls := cA, slots := Array.replicate n.toNatClampNeg .null, vm := .none })[T.heap.size]? = some (newA cA (.object C) n) := by simp [newA, defaultValue]
  refine ⟨_, _, cA, X'.more (Nat.le_refl _) (Nat.add_le_add_left hcap _), rfl, ext_of fun a q => (Array.getElem?_push_lt q).trans (Array.getElem?_eq_getElem q).symm, ⟨hcell, ⟨by simp [newA], kZ, z1, comp, hk⟩, by simp [newA]⟩, ⟨kZ, comp, z1, hk, f4⟩, ⟨_, kZ, hcell, f1, z1, rfl, fun q => by rw [hk] at q; cases q⟩, st⟩
/-- Object.getClass() on an object of just that class -/
theorem own_getClass (X : Stand p l e R s m args below meth c T locs cells slots) (hx : p.tables.exec = Jvm.exec) (hZ : Z.Warmed39 s.vm) {own C : String} {index : Nat} {mir b : Addr}
    (hown : s.vm.findClass own = some m.cls) (w1 : (Jvm.Cond.methodLink own index Jvm.Stand.gcN).before a0 Z = true) (w2 : (Jvm.Cond.declares Jvm.Stand.gcN).before a0 Z = true) (w3 : (Jvm.Cond.noSuperclass "java/lang/Object").before a0 Z = true)
    (w4 : (Jvm.Cond.selects C Jvm.Stand.gcN Jvm.Stand.gcN).before a0 Z = true) (w5 : (Jvm.Cond.instanceMethod Jvm.Stand.gcN).before a0 Z = true) (w6 : (Jvm.Cond.native Jvm.Stand.gcN).before a0 Z = true) (M : own_Mir Z C mir) (eT : T.heap = h) (E : Exa Z h b C)
    {g : JFrame} (hg : g.method = m) (hsize : g.locals.size = c.maxLocals) {rest : List Value} (hstack : g.stack = .ref b :: rest) (hdg : decode c.code g.pc = .ok (.invokevirtual index, 3))
    (hframes : 1 ≤ R.frames) (hlocals : 2 * g.monitorRoom + (rest.map fun v => v.category).sum + (nativeFrameWords "java/lang/Object" "getClass" 1 + 11) ≤ R.locals) :
    ∃ T', Stand p l e R s m args below meth c T' locs cells slots ∧ T'.heap = h ∧ ∀ target, Steps p.tables e below (T'.setTop { g with pc := g.pc + 3, stack := .ref mir :: rest }) target → Steps p.tables e below (T.setTop g) target := by
  obtain ⟨cB, kB, q1, q2, q3⟩ := isOf hZ eT E
  obtain ⟨c2, k2, m1, m2, m3⟩ := M.s hZ
  cases q1.symm.trans m1
  obtain ⟨vm1, X', st⟩ := X.getClassOf hx hown (mvT hZ w1) (mvT hZ w2) (nf_top (args := #[]) (y := Jvm.Stand.gcN) (mvT hZ w3)) (mvT hZ w4) (mvT hZ w5) (mvT hZ w6) q1 q3 m2 m3 hg hsize hstack hdg hframes hlocals
  exact ⟨_, X', eT, st⟩
end OwnBase654

theorem own_and3 (x : Int32) : (x &&& 3) = 0 ∨ (x &&& 3) = 1 ∨ (x &&& 3) = 2 ∨ (x &&& 3) = 3 := by
  have h : ∀ b : BitVec 32, (b &&& 3#32) = 0#32 ∨ (b &&& 3#32) = 1#32 ∨ (b &&& 3#32) = 2#32 ∨ (b &&& 3#32) = 3#32 := by
    intro b
    have hb : (b &&& 3#32).toNat ≤ 3 := by rw [BitVec.toNat_and]; exact Nat.and_le_right
    have : (b &&& 3#32).toNat = 0 ∨ (b &&& 3#32).toNat = 1 ∨ (b &&& 3#32).toNat = 2 ∨ (b &&& 3#32).toNat = 3 := by omega
    rcases this with h | h | h | h
    · exact Or.inl (BitVec.eq_of_toNat_eq h)
    · exact Or.inr (Or.inl (BitVec.eq_of_toNat_eq h))
    · exact Or.inr (Or.inr (Or.inl (BitVec.eq_of_toNat_eq h)))
    · exact Or.inr (Or.inr (Or.inr (BitVec.eq_of_toNat_eq h)))
  rcases h x.toBitVec with h | h | h | h
  · exact Or.inl (Int32.toBitVec_inj.mp h)
  · exact Or.inr (Or.inl (Int32.toBitVec_inj.mp h))
  · exact Or.inr (Or.inr (Or.inl (Int32.toBitVec_inj.mp h)))
  · exact Or.inr (Or.inr (Or.inr (Int32.toBitVec_inj.mp h)))
/-- an empty array of the start -/
theorem own_emp {Z : State} {args : Array Value} {t : Term} {a : Addr} {ty : FieldType} (hf : Fit Z) (ev : t.eval args Z none [] Z = some (.ref a)) (h1 : (Jvm.Cond.arrayOf t ty).value args Z none Z [] = some true)
    (h2 : (Jvm.Cond.eq (Term.length t) (Term.int 0)).value args Z none Z [] = some true) : ∃ k, Arv Z Z.heap a k ty (0 : Int32) [] .null := by
  obtain ⟨cl, A⟩ := Arr.start ev h1
  obtain ⟨y, z, q1, q2, -, -⟩ := cmp_v (Or.inl h2)
  have hc := A.fin (Vm.Alike.refl _)
  have h31 := Jvm.Free.SBG.length_lt ev hc q1
  have q3 := len_f ev hc h31
  have hz : z = .int 0 := Option.some.inj (q2.symm.trans (Term.int_eval 0))
  simp only [Jvm.Cond.value] at h2
  rw [q3, q2, hz] at h2
  have e : cl.slots.size.toInt32 = 0 := by simpa using h2
  exact ⟨_, Arv.start hf A h31 e (by decide) rfl trivial⟩

def own_St (Z : State) (w_NONE w_DEF w_EMP w_EL w_ELA mir : Addr) (kd ke : ClassId) : Prop := Sta Z Z.heap "com/example/invariant/invariant/Configuration" "NONE" "Lcom/example/invariant/invariant/Configuration;" (.ref w_NONE) ∧ Exa Z Z.heap w_NONE "com/example/invariant/invariant/Configuration" ∧ Fld Z Z.heap w_NONE "com/example/invariant/invariant/Configuration" "hash" "I" (.int (1 : Int32)) ∧ Sta Z Z.heap "java/util/ArrayList" "DEFAULTCAPACITY_EMPTY_ELEMENTDATA" "[Ljava/lang/Object;" (.ref w_DEF) ∧ Arv Z Z.heap w_DEF kd (.object "java/lang/Object") (0 : Int32) [] .null ∧ Sta Z Z.heap "java/util/ImmutableCollections" "EMPTY" "Ljava/lang/Object;" (.ref w_EMP) ∧ Sta Z Z.heap "java/util/ImmutableCollections" "EMPTY_LIST" "Ljava/util/ImmutableCollections$ListN;" (.ref w_EL) ∧ Exa Z Z.heap w_EL "java/util/ImmutableCollections$ListN" ∧ Fld Z Z.heap w_EL "java/util/ImmutableCollections$ListN" "elements" "[Ljava/lang/Object;" (.ref w_ELA) ∧ Arv Z Z.heap w_ELA ke (.object "java/lang/Object") (0 : Int32) [] .null ∧ Fld Z Z.heap w_EL "java/util/ImmutableCollections$ListN" "allowNulls" "Z" (.int (0 : Int32)) ∧ own_Mir Z "[Ljava/lang/Object;" mir
theorem own_d12_0 : decode jdk_29_method_69_code 0 = .ok (.iload_n 0, 1) := by decide +kernel
theorem own_d12_1 : decode jdk_29_method_69_code 1 = .ok (.iload_n 1, 1) := by decide +kernel
theorem own_d12_2 : decode jdk_29_method_69_code 2 = .ok (.if_icmp .gt 7, 3) := by decide +kernel
theorem own_d12_9 : decode jdk_29_method_69_code 9 = .ok (.iload_n 1, 1) := by decide +kernel
theorem own_d12_10 : decode jdk_29_method_69_code 10 = .ok (.ireturn, 1) := by decide +kernel
theorem own_d12_5 : decode jdk_29_method_69_code 5 = .ok (.iload_n 0, 1) := by decide +kernel
theorem own_d12_6 : decode jdk_29_method_69_code 6 = .ok (.goto 4, 3) := by decide +kernel
theorem own_ef_mmin (m : MethodId) (x0 : Int32) (x1 : Int32)  : entryFrame m #[(.int x0), (.int x1)] 2 = mkF m 0 #[.val (.int x0), .val (.int x1)] [] := by first | (simp [entryFrame, mkF, argsToLocals, Value.category]; done) | rfl
def own_Q_mmin (Z : State) (q1 q2 r : Int32) (h0 : Heap) (n0 : Nat) (v : Option Value) (h : Heap) (L : List Loc) : Prop := v = some (.int r) ∧ Fr n0 L ∧ h = h0
set_option maxRecDepth 65536 in
set_option maxHeartbeats 40000000 in
theorem own_rm_mmin (l : Launch) (Z : State) (a0 : Array Value) (hw : ∀ d ∈ tables_1, d.before a0 Z = true) (ws : List Jvm.Cond) (q1 q2 r : Int32) (h0 : Heap) (n0 : Nat) (O0 : Old Z n0 h0) (hr0 : r = if q2 < q1 then q2 else q1) :
    MetFree l (⟨"java/lang/Math", "min", "(II)I"⟩ : MethodName) (head1 (Jvm.Cond.code (⟨"java/lang/Math", "min", "(II)I"⟩ : MethodName) jdk_29_method_69_code 2 (some .int) :: ws) ({ frames := 0, cells := 0, slots := 0, locals := 0 } : Room)) (fun ar9 U => ar9 = #[(.int q1), (.int q2)] ∧ Z.Warmed39 U.vm ∧ U.heap = h0) (fun _ _ _ _ _ => True) (fun _ U o U' => ∃ v L, o = .returned v ∧ own_Q_mmin Z q1 q2 r h0 n0 v U'.heap L ∧ FrameEnd U o U' L ({ frames := 0, cells := 0, slots := 0, locals := 0 } : Room).cells ({ frames := 0, cells := 0, slots := 0, locals := 0 } : Room).slots) := by
  refine MetFree.of_bodySF (Jvm.Free.JP.mathPlain rfl (by decide +kernel)) hisR ?_
  intro p e s m args below meth c s₁ Bd hml0 hP hK0
  obtain ⟨rfl, hZ, hh⟩ := hP
  have hx := Bd.exec
  have hby := Bd.bytes
  have hml : c.maxLocals = 2 := hml0
  have hown : s.vm.findClass "java/lang/Math" = some m.cls := findClass_of_methodNamed Bd.named
  have hnm := (name_of_methodNamed Bd.named Bd.method).1
  have X0 : Stand p l e ({ frames := 0, cells := 0, slots := 0, locals := 0 } : Room) s m #[(.int q1), (.int q2)] below meth c s₁ [] 0 0 := Stand.of_body Bd
  have e0 : s₁.heap = h0 := by rw [← hh, Bd.state]; rfl
  have N0 := Fr.nil n0
  refine own_open fun K hK => ?_
  refine own_go (B := s₁.setTop (mkF m 0 #[.val (.int q1), .val (.int q2)] [])) (fun t k => castTop (own_ef_mmin m q1 q2) k) ?_
  refine own_go (B := s₁.setTop (mkF m 1 #[.val (.int q1), .val (.int q2)] [(.int q1)])) (fun t k => XS.iloadN X0.here hx rfl (hb hby own_d12_0) rfl k) ?_
  refine own_go (B := s₁.setTop (mkF m 2 #[.val (.int q1), .val (.int q2)] [(.int q2), (.int q1)])) (fun t k => XS.iloadN X0.here hx rfl (hb hby own_d12_1) rfl k) ?_
  by_cases hc2_1 : q2 < q1
  · refine own_go (B := s₁.setTop (mkF m 9 #[.val (.int q1), .val (.int q2)] [])) (fun t k => XS.icmpYes X0.here hx rfl (pc0 := 2) (pc' := 9) rfl (hb hby own_d12_2) rfl (tlt hc2_1).2.2.1 (by decide) (by decide) k) ?_
    refine own_go (B := s₁.setTop (mkF m 10 #[.val (.int q1), .val (.int q2)] [(.int q2)])) (fun t k => XS.iloadN X0.here hx rfl (hb hby own_d12_9) rfl k) ?_
    obtain ⟨fs, hr, hrun, hended, hW, hsame⟩ := X0.leave (v := some (.int q2)) (fun h => by rw [Bd.returns] at h; cases h)
    refine ⟨_, _, own_retI X0 hx Bd.returns (hb hby own_d12_10) hr, hK _ _ ⟨hrun, hended, _, _, rfl, ?_, ⟨_, rfl⟩, hW, hsame.mono (by decide) (by decide)⟩⟩
    show own_Q_mmin Z q1 q2 r h0 n0 _ s₁.heap _
    rw [e0]
    exact ⟨(by rw [hr0]; simp only [hc2_1, if_true, if_false]), N0, rfl⟩
  · refine own_go (B := s₁.setTop (mkF m 5 #[.val (.int q1), .val (.int q2)] [])) (fun t k => XS.icmpNo X0.here hx rfl (hb hby own_d12_2) rfl (flt hc2_1).2.2.1 k) ?_
    refine own_go (B := s₁.setTop (mkF m 6 #[.val (.int q1), .val (.int q2)] [(.int q1)])) (fun t k => XS.iloadN X0.here hx rfl (hb hby own_d12_5) rfl k) ?_
    refine own_go (B := s₁.setTop (mkF m 10 #[.val (.int q1), .val (.int q2)] [(.int q1)])) (fun t k => XS.goto X0.here hx rfl (pc0 := 6) (pc' := 10) rfl (hb hby own_d12_6) (by decide) (by decide) k) ?_
    obtain ⟨fs, hr, hrun, hended, hW, hsame⟩ := X0.leave (v := some (.int q1)) (fun h => by rw [Bd.returns] at h; cases h)
    refine ⟨_, _, own_retI X0 hx Bd.returns (hb hby own_d12_10) hr, hK _ _ ⟨hrun, hended, _, _, rfl, ?_, ⟨_, rfl⟩, hW, hsame.mono (by decide) (by decide)⟩⟩
    show own_Q_mmin Z q1 q2 r h0 n0 _ s₁.heap _
    rw [e0]
    exact ⟨(by rw [hr0]; simp only [hc2_1, if_true, if_false]), N0, rfl⟩
theorem own_d11_0 : decode jdk_29_method_65_code 0 = .ok (.iload_n 0, 1) := by decide +kernel
theorem own_d11_1 : decode jdk_29_method_65_code 1 = .ok (.iload_n 1, 1) := by decide +kernel
theorem own_d11_2 : decode jdk_29_method_65_code 2 = .ok (.if_icmp .lt 7, 3) := by decide +kernel
theorem own_d11_9 : decode jdk_29_method_65_code 9 = .ok (.iload_n 1, 1) := by decide +kernel
theorem own_d11_10 : decode jdk_29_method_65_code 10 = .ok (.ireturn, 1) := by decide +kernel
theorem own_d11_5 : decode jdk_29_method_65_code 5 = .ok (.iload_n 0, 1) := by decide +kernel
theorem own_d11_6 : decode jdk_29_method_65_code 6 = .ok (.goto 4, 3) := by decide +kernel
theorem own_ef_mmax (m : MethodId) (x0 : Int32) (x1 : Int32)  : entryFrame m #[(.int x0), (.int x1)] 2 = mkF m 0 #[.val (.int x0), .val (.int x1)] [] := by first | (simp [entryFrame, mkF, argsToLocals, Value.category]; done) | rfl
def own_Q_mmax (Z : State) (q1 q2 r : Int32) (h0 : Heap) (n0 : Nat) (v : Option Value) (h : Heap) (L : List Loc) : Prop := v = some (.int r) ∧ Fr n0 L ∧ h = h0
set_option maxRecDepth 65536 in
set_option maxHeartbeats 40000000 in
theorem own_rm_mmax (l : Launch) (Z : State) (a0 : Array Value) (hw : ∀ d ∈ tables_1, d.before a0 Z = true) (ws : List Jvm.Cond) (q1 q2 r : Int32) (h0 : Heap) (n0 : Nat) (O0 : Old Z n0 h0) (hr0 : r = if q1 < q2 then q2 else q1) :
    MetFree l (⟨"java/lang/Math", "max", "(II)I"⟩ : MethodName) (head1 (Jvm.Cond.code (⟨"java/lang/Math", "max", "(II)I"⟩ : MethodName) jdk_29_method_65_code 2 (some .int) :: ws) ({ frames := 0, cells := 0, slots := 0, locals := 0 } : Room)) (fun ar9 U => ar9 = #[(.int q1), (.int q2)] ∧ Z.Warmed39 U.vm ∧ U.heap = h0) (fun _ _ _ _ _ => True) (fun _ U o U' => ∃ v L, o = .returned v ∧ own_Q_mmax Z q1 q2 r h0 n0 v U'.heap L ∧ FrameEnd U o U' L ({ frames := 0, cells := 0, slots := 0, locals := 0 } : Room).cells ({ frames := 0, cells := 0, slots := 0, locals := 0 } : Room).slots) := by
  refine MetFree.of_bodySF (Jvm.Free.JP.mathPlain rfl (by decide +kernel)) hisR ?_
  intro p e s m args below meth c s₁ Bd hml0 hP hK0
  obtain ⟨rfl, hZ, hh⟩ := hP
  have hx := Bd.exec
  have hby := Bd.bytes
  have hml : c.maxLocals = 2 := hml0
  have hown : s.vm.findClass "java/lang/Math" = some m.cls := findClass_of_methodNamed Bd.named
  have hnm := (name_of_methodNamed Bd.named Bd.method).1
  have X0 : Stand p l e ({ frames := 0, cells := 0, slots := 0, locals := 0 } : Room) s m #[(.int q1), (.int q2)] below meth c s₁ [] 0 0 := Stand.of_body Bd
  have e0 : s₁.heap = h0 := by rw [← hh, Bd.state]; rfl
  have N0 := Fr.nil n0
  refine own_open fun K hK => ?_
  refine own_go (B := s₁.setTop (mkF m 0 #[.val (.int q1), .val (.int q2)] [])) (fun t k => castTop (own_ef_mmax m q1 q2) k) ?_
  refine own_go (B := s₁.setTop (mkF m 1 #[.val (.int q1), .val (.int q2)] [(.int q1)])) (fun t k => XS.iloadN X0.here hx rfl (hb hby own_d11_0) rfl k) ?_
  refine own_go (B := s₁.setTop (mkF m 2 #[.val (.int q1), .val (.int q2)] [(.int q2), (.int q1)])) (fun t k => XS.iloadN X0.here hx rfl (hb hby own_d11_1) rfl k) ?_
  by_cases hc2_4 : q1 < q2
  · refine own_go (B := s₁.setTop (mkF m 9 #[.val (.int q1), .val (.int q2)] [])) (fun t k => XS.icmpYes X0.here hx rfl (pc0 := 2) (pc' := 9) rfl (hb hby own_d11_2) rfl (tlt hc2_4).1 (by decide) (by decide) k) ?_
    refine own_go (B := s₁.setTop (mkF m 10 #[.val (.int q1), .val (.int q2)] [(.int q2)])) (fun t k => XS.iloadN X0.here hx rfl (hb hby own_d11_9) rfl k) ?_
    obtain ⟨fs, hr, hrun, hended, hW, hsame⟩ := X0.leave (v := some (.int q2)) (fun h => by rw [Bd.returns] at h; cases h)
    refine ⟨_, _, own_retI X0 hx Bd.returns (hb hby own_d11_10) hr, hK _ _ ⟨hrun, hended, _, _, rfl, ?_, ⟨_, rfl⟩, hW, hsame.mono (by decide) (by decide)⟩⟩
    show own_Q_mmax Z q1 q2 r h0 n0 _ s₁.heap _
    rw [e0]
    exact ⟨(by rw [hr0]; simp only [hc2_4, if_true, if_false]), N0, rfl⟩
  · refine own_go (B := s₁.setTop (mkF m 5 #[.val (.int q1), .val (.int q2)] [])) (fun t k => XS.icmpNo X0.here hx rfl (hb hby own_d11_2) rfl (flt hc2_4).1 k) ?_
    refine own_go (B := s₁.setTop (mkF m 6 #[.val (.int q1), .val (.int q2)] [(.int q1)])) (fun t k => XS.iloadN X0.here hx rfl (hb hby own_d11_5) rfl k) ?_
    refine own_go (B := s₁.setTop (mkF m 10 #[.val (.int q1), .val (.int q2)] [(.int q1)])) (fun t k => XS.goto X0.here hx rfl (pc0 := 6) (pc' := 10) rfl (hb hby own_d11_6) (by decide) (by decide) k) ?_
    obtain ⟨fs, hr, hrun, hended, hW, hsame⟩ := X0.leave (v := some (.int q1)) (fun h => by rw [Bd.returns] at h; cases h)
    refine ⟨_, _, own_retI X0 hx Bd.returns (hb hby own_d11_10) hr, hK _ _ ⟨hrun, hended, _, _, rfl, ?_, ⟨_, rfl⟩, hW, hsame.mono (by decide) (by decide)⟩⟩
    show own_Q_mmax Z q1 q2 r h0 n0 _ s₁.heap _
    rw [e0]
    exact ⟨(by rw [hr0]; simp only [hc2_4, if_true, if_false]), N0, rfl⟩
theorem own_d37_0 : decode jdk_31_method_11_code 0 = .ok (.aload_n 0, 1) := by decide +kernel
theorem own_d37_1 : decode jdk_31_method_11_code 1 = .ok (.ifnonnull 12, 3) := by decide +kernel
theorem own_d37_13 : decode jdk_31_method_11_code 13 = .ok (.aload_n 0, 1) := by decide +kernel
theorem own_d37_14 : decode jdk_31_method_11_code 14 = .ok (.areturn, 1) := by decide +kernel
theorem own_pn_0 : plainName "java/util/Objects" = true := by first | (simp [plainName, overriddenIn]; done) | decide +kernel
theorem own_ef_rnn2 (m : MethodId) (x0 : Addr) (x1 : Addr)  : entryFrame m #[(.ref x0), (.ref x1)] 2 = mkF m 0 #[.val (.ref x0), .val (.ref x1)] [] := by first | (simp [entryFrame, mkF, argsToLocals, Value.category]; done) | rfl
def own_Q_rnn2 (Z : State) (a b : Addr) (h0 : Heap) (n0 : Nat) (v : Option Value) (h : Heap) (L : List Loc) : Prop := v = some (.ref a) ∧ Fr n0 L ∧ h = h0
set_option maxRecDepth 65536 in
set_option maxHeartbeats 40000000 in
theorem own_rm_rnn2 (l : Launch) (Z : State) (a0 : Array Value) (hw : ∀ d ∈ tables_1, d.before a0 Z = true) (ws : List Jvm.Cond) (a b : Addr) (h0 : Heap) (n0 : Nat) (O0 : Old Z n0 h0) :
    MetFree l (⟨"java/util/Objects", "requireNonNull", "(Ljava/lang/Object;Ljava/lang/String;)Ljava/lang/Object;"⟩ : MethodName) (head1 (Jvm.Cond.code (⟨"java/util/Objects", "requireNonNull", "(Ljava/lang/Object;Ljava/lang/String;)Ljava/lang/Object;"⟩ : MethodName) jdk_31_method_11_code 2 (some (.object "java/lang/Object")) :: ws) ({ frames := 0, cells := 0, slots := 0, locals := 0 } : Room)) (fun ar9 U => ar9 = #[(.ref a), (.ref b)] ∧ Z.Warmed39 U.vm ∧ U.heap = h0) (fun _ _ _ _ _ => True) (fun _ U o U' => ∃ v L, o = .returned v ∧ own_Q_rnn2 Z a b h0 n0 v U'.heap L ∧ FrameEnd U o U' L ({ frames := 0, cells := 0, slots := 0, locals := 0 } : Room).cells ({ frames := 0, cells := 0, slots := 0, locals := 0 } : Room).slots) := by
  refine MetFree.of_bodySF (plainFor_of_name own_pn_0) hisR ?_
  intro p e s m args below meth c s₁ Bd hml0 hP hK0
  obtain ⟨rfl, hZ, hh⟩ := hP
  have hx := Bd.exec
  have hby := Bd.bytes
  have hml : c.maxLocals = 2 := hml0
  have hown : s.vm.findClass "java/util/Objects" = some m.cls := findClass_of_methodNamed Bd.named
  have hnm := (name_of_methodNamed Bd.named Bd.method).1
  have X0 : Stand p l e ({ frames := 0, cells := 0, slots := 0, locals := 0 } : Room) s m #[(.ref a), (.ref b)] below meth c s₁ [] 0 0 := Stand.of_body Bd
  have e0 : s₁.heap = h0 := by rw [← hh, Bd.state]; rfl
  have N0 := Fr.nil n0
  refine own_open fun K hK => ?_
  refine own_go (B := s₁.setTop (mkF m 0 #[.val (.ref a), .val (.ref b)] [])) (fun t k => castTop (own_ef_rnn2 m a b) k) ?_
  refine own_go (B := s₁.setTop (mkF m 1 #[.val (.ref a), .val (.ref b)] [(.ref a)])) (fun t k => XS.aloadN X0.here hx rfl (hb hby own_d37_0) rfl rfl k) ?_
  refine own_go (B := s₁.setTop (mkF m 13 #[.val (.ref a), .val (.ref b)] [])) (fun t k => XS.ifnonnullYes X0.here hx rfl (pc0 := 1) (pc' := 13) rfl (hb hby own_d37_1) rfl (by decide) (by decide) k) ?_
  refine own_go (B := s₁.setTop (mkF m 14 #[.val (.ref a), .val (.ref b)] [(.ref a)])) (fun t k => XS.aloadN X0.here hx rfl (hb hby own_d37_13) rfl rfl k) ?_
  obtain ⟨fs, hr, hrun, hended, hW, hsame⟩ := X0.leave (v := some (.ref a)) (fun h => by rw [Bd.returns] at h; cases h)
  refine ⟨_, _, own_retA X0 hx Bd.returns rfl rfl (hb hby own_d37_14) hr, hK _ _ ⟨hrun, hended, _, _, rfl, ?_, ⟨_, rfl⟩, hW, hsame.mono (by decide) (by decide)⟩⟩
  show own_Q_rnn2 Z a b h0 n0 _ s₁.heap _
  rw [e0]
  exact ⟨rfl, N0, rfl⟩
theorem own_d36_0 : decode jdk_31_method_10_code 0 = .ok (.aload_n 0, 1) := by decide +kernel
theorem own_d36_1 : decode jdk_31_method_10_code 1 = .ok (.ifnonnull 11, 3) := by decide +kernel
theorem own_d36_12 : decode jdk_31_method_10_code 12 = .ok (.aload_n 0, 1) := by decide +kernel
theorem own_d36_13 : decode jdk_31_method_10_code 13 = .ok (.areturn, 1) := by decide +kernel
theorem own_ef_rnn1 (m : MethodId) (x0 : Addr)  : entryFrame m #[(.ref x0)] 1 = mkF m 0 #[.val (.ref x0)] [] := by first | (simp [entryFrame, mkF, argsToLocals, Value.category]; done) | rfl
def own_Q_rnn1 (Z : State) (a : Addr) (h0 : Heap) (n0 : Nat) (v : Option Value) (h : Heap) (L : List Loc) : Prop := v = some (.ref a) ∧ Fr n0 L ∧ h = h0
set_option maxRecDepth 65536 in
set_option maxHeartbeats 40000000 in
theorem own_rm_rnn1 (l : Launch) (Z : State) (a0 : Array Value) (hw : ∀ d ∈ tables_1, d.before a0 Z = true) (ws : List Jvm.Cond) (a : Addr) (h0 : Heap) (n0 : Nat) (O0 : Old Z n0 h0) :
    MetFree l (⟨"java/util/Objects", "requireNonNull", "(Ljava/lang/Object;)Ljava/lang/Object;"⟩ : MethodName) (head1 (Jvm.Cond.code (⟨"java/util/Objects", "requireNonNull", "(Ljava/lang/Object;)Ljava/lang/Object;"⟩ : MethodName) jdk_31_method_10_code 1 (some (.object "java/lang/Object")) :: ws) ({ frames := 0, cells := 0, slots := 0, locals := 0 } : Room)) (fun ar9 U => ar9 = #[(.ref a)] ∧ Z.Warmed39 U.vm ∧ U.heap = h0) (fun _ _ _ _ _ => True) (fun _ U o U' => ∃ v L, o = .returned v ∧ own_Q_rnn1 Z a h0 n0 v U'.heap L ∧ FrameEnd U o U' L ({ frames := 0, cells := 0, slots := 0, locals := 0 } : Room).cells ({ frames := 0, cells := 0, slots := 0, locals := 0 } : Room).slots) := by
  refine MetFree.of_bodySF (plainFor_of_name own_pn_0) hisR ?_
  intro p e s m args below meth c s₁ Bd hml0 hP hK0
  obtain ⟨rfl, hZ, hh⟩ := hP
  have hx := Bd.exec
  have hby := Bd.bytes
  have hml : c.maxLocals = 1 := hml0
  have hown : s.vm.findClass "java/util/Objects" = some m.cls := findClass_of_methodNamed Bd.named
  have hnm := (name_of_methodNamed Bd.named Bd.method).1
  have X0 : Stand p l e ({ frames := 0, cells := 0, slots := 0, locals := 0 } : Room) s m #[(.ref a)] below meth c s₁ [] 0 0 := Stand.of_body Bd
  have e0 : s₁.heap = h0 := by rw [← hh, Bd.state]; rfl
  have N0 := Fr.nil n0
  refine own_open fun K hK => ?_
  refine own_go (B := s₁.setTop (mkF m 0 #[.val (.ref a)] [])) (fun t k => castTop (own_ef_rnn1 m a) k) ?_
  refine own_go (B := s₁.setTop (mkF m 1 #[.val (.ref a)] [(.ref a)])) (fun t k => XS.aloadN X0.here hx rfl (hb hby own_d36_0) rfl rfl k) ?_
  refine own_go (B := s₁.setTop (mkF m 12 #[.val (.ref a)] [])) (fun t k => XS.ifnonnullYes X0.here hx rfl (pc0 := 1) (pc' := 12) rfl (hb hby own_d36_1) rfl (by decide) (by decide) k) ?_
  refine own_go (B := s₁.setTop (mkF m 13 #[.val (.ref a)] [(.ref a)])) (fun t k => XS.aloadN X0.here hx rfl (hb hby own_d36_12) rfl rfl k) ?_
  obtain ⟨fs, hr, hrun, hended, hW, hsame⟩ := X0.leave (v := some (.ref a)) (fun h => by rw [Bd.returns] at h; cases h)
  refine ⟨_, _, own_retA X0 hx Bd.returns rfl rfl (hb hby own_d36_13) hr, hK _ _ ⟨hrun, hended, _, _, rfl, ?_, ⟨_, rfl⟩, hW, hsame.mono (by decide) (by decide)⟩⟩
  show own_Q_rnn1 Z a h0 n0 _ s₁.heap _
  rw [e0]
  exact ⟨rfl, N0, rfl⟩
theorem own_d0_0 : decode prog_15_method_7_code 0 = .ok (.aload_n 0, 1) := by decide +kernel
theorem own_d0_1 : decode prog_15_method_7_code 1 = .ok (.getfield 28, 3) := by decide +kernel
theorem own_d0_4 : decode prog_15_method_7_code 4 = .ok (.ireturn, 1) := by decide +kernel
theorem own_pn_1 : plainName "com/example/invariant/invariant/Configuration" = true := by first | (simp [plainName, overriddenIn]; done) | decide +kernel
theorem own_ef_chash (m : MethodId) (x0 : Addr)  : entryFrame m #[(.ref x0)] 1 = mkF m 0 #[.val (.ref x0)] [] := by first | (simp [entryFrame, mkF, argsToLocals, Value.category]; done) | rfl
def own_Q_chash (Z : State) (a : Addr) (r : Int32) (h0 : Heap) (n0 : Nat) (v : Option Value) (h : Heap) (L : List Loc) : Prop := v = some (.int r) ∧ Fr n0 L ∧ h = h0
set_option maxRecDepth 65536 in
set_option maxHeartbeats 40000000 in
theorem own_rm_chash (l : Launch) (Z : State) (a0 : Array Value) (hw : ∀ d ∈ tables_1, d.before a0 Z = true) (ws : List Jvm.Cond) (a : Addr) (r : Int32) (h0 : Heap) (n0 : Nat) (O0 : Old Z n0 h0) (F0 : Fld Z Z.heap a "com/example/invariant/invariant/Configuration" "hash" "I" (.int r)) :
    MetFree l (⟨"com/example/invariant/invariant/Configuration", "hashCode", "()I"⟩ : MethodName) (head1 (Jvm.Cond.code (⟨"com/example/invariant/invariant/Configuration", "hashCode", "()I"⟩ : MethodName) prog_15_method_7_code 1 (some .int) :: ws) ({ frames := 0, cells := 0, slots := 0, locals := 0 } : Room)) (fun ar9 U => ar9 = #[(.ref a)] ∧ Z.Warmed39 U.vm ∧ U.heap = h0) (fun _ _ _ _ _ => True) (fun _ U o U' => ∃ v L, o = .returned v ∧ own_Q_chash Z a r h0 n0 v U'.heap L ∧ FrameEnd U o U' L ({ frames := 0, cells := 0, slots := 0, locals := 0 } : Room).cells ({ frames := 0, cells := 0, slots := 0, locals := 0 } : Room).slots) := by
  refine MetFree.of_bodySF (plainFor_of_name own_pn_1) hisR ?_
  intro p e s m args below meth c s₁ Bd hml0 hP hK0
  obtain ⟨rfl, hZ, hh⟩ := hP
  have hx := Bd.exec
  have hby := Bd.bytes
  have hml : c.maxLocals = 1 := hml0
  have hown : s.vm.findClass "com/example/invariant/invariant/Configuration" = some m.cls := findClass_of_methodNamed Bd.named
  have hnm := (name_of_methodNamed Bd.named Bd.method).1
  have X0 : Stand p l e ({ frames := 0, cells := 0, slots := 0, locals := 0 } : Room) s m #[(.ref a)] below meth c s₁ [] 0 0 := Stand.of_body Bd
  have e0 : s₁.heap = h0 := by rw [← hh, Bd.state]; rfl
  have N0 := Fr.nil n0
  refine own_open fun K hK => ?_
  refine own_go (B := s₁.setTop (mkF m 0 #[.val (.ref a)] [])) (fun t k => castTop (own_ef_chash m a) k) ?_
  refine own_go (B := s₁.setTop (mkF m 1 #[.val (.ref a)] [(.ref a)])) (fun t k => XS.aloadN X0.here hx rfl (hb hby own_d0_0) rfl rfl k) ?_
  obtain ⟨T9, X9, e9, st9⟩ := getF X0 hx hZ hown (host := "") (Or.inl (hw _ (List.mem_of_getElem? (i := 43) rfl))) Via.refl e0 (F0.ext O0.2) (g := (mkF m 1 #[.val (.ref a)] [(.ref a)])) rfl rfl (hb hby own_d0_1)
  refine own_go (B := T9.setTop (mkF m 4 #[.val (.ref a)] [(.int r)])) (fun t k => st9 _ k) ?_
  obtain ⟨fs, hr, hrun, hended, hW, hsame⟩ := X9.leave (v := some (.int r)) (fun h => by rw [Bd.returns] at h; cases h)
  refine ⟨_, _, own_retI X9 hx Bd.returns (hb hby own_d0_4) hr, hK _ _ ⟨hrun, hended, _, _, rfl, ?_, ⟨_, rfl⟩, hW, hsame.mono (by decide) (by decide)⟩⟩
  show own_Q_chash Z a r h0 n0 _ T9.heap _
  rw [e9]
  exact ⟨rfl, N0, rfl⟩
theorem own_d26_0 : decode jdk_65_method_157_code 0 = .ok (.aload_n 0, 1) := by decide +kernel
theorem own_d26_1 : decode jdk_65_method_157_code 1 = .ok (.ifnonnull 5, 3) := by decide +kernel
theorem own_d26_6 : decode jdk_65_method_157_code 6 = .ok (.iconst 1, 1) := by decide +kernel
theorem own_d26_7 : decode jdk_65_method_157_code 7 = .ok (.istore_n 1, 1) := by decide +kernel
theorem own_d26_8 : decode jdk_65_method_157_code 8 = .ok (.aload_n 0, 1) := by decide +kernel
theorem own_d26_9 : decode jdk_65_method_157_code 9 = .ok (.astore_n 2, 1) := by decide +kernel
theorem own_d26_10 : decode jdk_65_method_157_code 10 = .ok (.aload_n 2, 1) := by decide +kernel
theorem own_d26_11 : decode jdk_65_method_157_code 11 = .ok (.arraylength, 1) := by decide +kernel
theorem own_d26_12 : decode jdk_65_method_157_code 12 = .ok (.istore_n 3, 1) := by decide +kernel
theorem own_d26_13 : decode jdk_65_method_157_code 13 = .ok (.iconst 0, 1) := by decide +kernel
theorem own_d26_14 : decode jdk_65_method_157_code 14 = .ok (.istore 4, 2) := by decide +kernel
theorem own_d26_16 : decode jdk_65_method_157_code 16 = .ok (.iload 4, 2) := by decide +kernel
theorem own_d26_18 : decode jdk_65_method_157_code 18 = .ok (.iload_n 3, 1) := by decide +kernel
theorem own_d26_19 : decode jdk_65_method_157_code 19 = .ok (.if_icmp .ge 35, 3) := by decide +kernel
theorem own_d26_54 : decode jdk_65_method_157_code 54 = .ok (.iload_n 1, 1) := by decide +kernel
theorem own_d26_55 : decode jdk_65_method_157_code 55 = .ok (.ireturn, 1) := by decide +kernel
theorem own_pn_2 : plainName "java/util/Arrays" = true := by first | (simp [plainName, overriddenIn]; done) | decide +kernel
theorem own_ef_hash0 (m : MethodId) (x0 : Addr)  : entryFrame m #[(.ref x0)] 6 = mkF m 0 #[.val (.ref x0), .unset, .unset, .unset, .unset, .unset] [] := by first | (simp [entryFrame, mkF, argsToLocals, Value.category]; done) | rfl
def own_Q_hash0 (Z : State) (b : Addr) (kb : ClassId) (h0 : Heap) (n0 : Nat) (v : Option Value) (h : Heap) (L : List Loc) : Prop := v = some (.int (1 : Int32)) ∧ Fr n0 L ∧ h = h0
set_option maxRecDepth 65536 in
set_option maxHeartbeats 40000000 in
theorem own_rm_hash0 (l : Launch) (Z : State) (a0 : Array Value) (hw : ∀ d ∈ tables_1, d.before a0 Z = true) (ws : List Jvm.Cond) (b : Addr) (kb : ClassId) (h0 : Heap) (n0 : Nat) (O0 : Old Z n0 h0) (A0 : Arv Z h0 b kb (.object "com/example/invariant/invariant/Value") (0 : Int32) [] .null) :
    MetFree l (⟨"java/util/Arrays", "hashCode", "([Ljava/lang/Object;)I"⟩ : MethodName) (head1 (Jvm.Cond.code (⟨"java/util/Arrays", "hashCode", "([Ljava/lang/Object;)I"⟩ : MethodName) jdk_65_method_157_code 6 (some .int) :: ws) ({ frames := 0, cells := 0, slots := 0, locals := 0 } : Room)) (fun ar9 U => ar9 = #[(.ref b)] ∧ Z.Warmed39 U.vm ∧ U.heap = h0) (fun _ _ _ _ _ => True) (fun _ U o U' => ∃ v L, o = .returned v ∧ own_Q_hash0 Z b kb h0 n0 v U'.heap L ∧ FrameEnd U o U' L ({ frames := 0, cells := 0, slots := 0, locals := 0 } : Room).cells ({ frames := 0, cells := 0, slots := 0, locals := 0 } : Room).slots) := by
  refine MetFree.of_bodySF (plainFor_of_name own_pn_2) hisR ?_
  intro p e s m args below meth c s₁ Bd hml0 hP hK0
  obtain ⟨rfl, hZ, hh⟩ := hP
  have hx := Bd.exec
  have hby := Bd.bytes
  have hml : c.maxLocals = 6 := hml0
  have hown : s.vm.findClass "java/util/Arrays" = some m.cls := findClass_of_methodNamed Bd.named
  have hnm := (name_of_methodNamed Bd.named Bd.method).1
  have X0 : Stand p l e ({ frames := 0, cells := 0, slots := 0, locals := 0 } : Room) s m #[(.ref b)] below meth c s₁ [] 0 0 := Stand.of_body Bd
  have e0 : s₁.heap = h0 := by rw [← hh, Bd.state]; rfl
  have N0 := Fr.nil n0
  refine own_open fun K hK => ?_
  refine own_go (B := s₁.setTop (mkF m 0 #[.val (.ref b), .unset, .unset, .unset, .unset, .unset] [])) (fun t k => castTop (own_ef_hash0 m b) k) ?_
  refine own_go (B := s₁.setTop (mkF m 1 #[.val (.ref b), .unset, .unset, .unset, .unset, .unset] [(.ref b)])) (fun t k => XS.aloadN X0.here hx rfl (hb hby own_d26_0) rfl rfl k) ?_
  refine own_go (B := s₁.setTop (mkF m 6 #[.val (.ref b), .unset, .unset, .unset, .unset, .unset] [])) (fun t k => XS.ifnonnullYes X0.here hx rfl (pc0 := 1) (pc' := 6) rfl (hb hby own_d26_1) rfl (by decide) (by decide) k) ?_
  refine own_go (B := s₁.setTop (mkF m 7 #[.val (.ref b), .unset, .unset, .unset, .unset, .unset] [(.int (1 : Int32))])) (fun t k => XS.iconst X0.here hx rfl (hb hby own_d26_6) k) ?_
  refine own_go (B := s₁.setTop (mkF m 8 #[.val (.ref b), .val (.int (1 : Int32)), .unset, .unset, .unset, .unset] [])) (fun t k => XS.istoreN X0.here hx rfl (hb hby own_d26_7) rfl (l' := #[.val (.ref b), .val (.int (1 : Int32)), .unset, .unset, .unset, .unset]) rfl k) ?_
  refine own_go (B := s₁.setTop (mkF m 9 #[.val (.ref b), .val (.int (1 : Int32)), .unset, .unset, .unset, .unset] [(.ref b)])) (fun t k => XS.aloadN X0.here hx rfl (hb hby own_d26_8) rfl rfl k) ?_
  refine own_go (B := s₁.setTop (mkF m 10 #[.val (.ref b), .val (.int (1 : Int32)), .val (.ref b), .unset, .unset, .unset] [])) (fun t k => XS.astoreN X0.here hx rfl (hb hby own_d26_9) rfl rfl (l' := #[.val (.ref b), .val (.int (1 : Int32)), .val (.ref b), .unset, .unset, .unset]) rfl k) ?_
  refine own_go (B := s₁.setTop (mkF m 11 #[.val (.ref b), .val (.int (1 : Int32)), .val (.ref b), .unset, .unset, .unset] [(.ref b)])) (fun t k => XS.aloadN X0.here hx rfl (hb hby own_d26_10) rfl rfl k) ?_
  obtain ⟨cl11, Ar11, qr11, Sr11, Nr11, Hr11, Gr11⟩ := id A0
  refine own_go (B := s₁.setTop (mkF m 12 #[.val (.ref b), .val (.int (1 : Int32)), .val (.ref b), .unset, .unset, .unset] [(.int (0 : Int32))])) (fun t k => X0.arraylength hx (by rw [e0]; exact Ar11.1) (State.isArrayOf_alike hZ.alike Ar11.2.1) (g := (mkF m 11 #[.val (.ref b), .val (.int (1 : Int32)), .val (.ref b), .unset, .unset, .unset] [(.ref b)])) rfl rfl (hb hby own_d26_11) _ (by rw [len_of Sr11 Nr11]; exact k)) ?_
  refine own_go (B := s₁.setTop (mkF m 13 #[.val (.ref b), .val (.int (1 : Int32)), .val (.ref b), .val (.int (0 : Int32)), .unset, .unset] [])) (fun t k => XS.istoreN X0.here hx rfl (hb hby own_d26_12) rfl (l' := #[.val (.ref b), .val (.int (1 : Int32)), .val (.ref b), .val (.int (0 : Int32)), .unset, .unset]) rfl k) ?_
  refine own_go (B := s₁.setTop (mkF m 14 #[.val (.ref b), .val (.int (1 : Int32)), .val (.ref b), .val (.int (0 : Int32)), .unset, .unset] [(.int (0 : Int32))])) (fun t k => XS.iconst X0.here hx rfl (hb hby own_d26_13) k) ?_
  refine own_go (B := s₁.setTop (mkF m 16 #[.val (.ref b), .val (.int (1 : Int32)), .val (.ref b), .val (.int (0 : Int32)), .val (.int (0 : Int32)), .unset] [])) (fun t k => XS.istore X0.here hx rfl (hb hby own_d26_14) rfl (l' := #[.val (.ref b), .val (.int (1 : Int32)), .val (.ref b), .val (.int (0 : Int32)), .val (.int (0 : Int32)), .unset]) rfl k) ?_
  refine own_go (B := s₁.setTop (mkF m 18 #[.val (.ref b), .val (.int (1 : Int32)), .val (.ref b), .val (.int (0 : Int32)), .val (.int (0 : Int32)), .unset] [(.int (0 : Int32))])) (fun t k => XS.iload X0.here hx rfl (hb hby own_d26_16) rfl k) ?_
  refine own_go (B := s₁.setTop (mkF m 19 #[.val (.ref b), .val (.int (1 : Int32)), .val (.ref b), .val (.int (0 : Int32)), .val (.int (0 : Int32)), .unset] [(.int (0 : Int32)), (.int (0 : Int32))])) (fun t k => XS.iloadN X0.here hx rfl (hb hby own_d26_18) rfl k) ?_
  refine own_go (B := s₁.setTop (mkF m 54 #[.val (.ref b), .val (.int (1 : Int32)), .val (.ref b), .val (.int (0 : Int32)), .val (.int (0 : Int32)), .unset] [])) (fun t k => XS.icmpYes X0.here hx rfl (pc0 := 19) (pc' := 54) rfl (hb hby own_d26_19) rfl (flt (by decide : ¬ ((0 : Int32) < (0 : Int32)))).2.1 (by decide) (by decide) k) ?_
  refine own_go (B := s₁.setTop (mkF m 55 #[.val (.ref b), .val (.int (1 : Int32)), .val (.ref b), .val (.int (0 : Int32)), .val (.int (0 : Int32)), .unset] [(.int (1 : Int32))])) (fun t k => XS.iloadN X0.here hx rfl (hb hby own_d26_54) rfl k) ?_
  obtain ⟨fs, hr, hrun, hended, hW, hsame⟩ := X0.leave (v := some (.int (1 : Int32))) (fun h => by rw [Bd.returns] at h; cases h)
  refine ⟨_, _, own_retI X0 hx Bd.returns (hb hby own_d26_55) hr, hK _ _ ⟨hrun, hended, _, _, rfl, ?_, ⟨_, rfl⟩, hW, hsame.mono (by decide) (by decide)⟩⟩
  show own_Q_hash0 Z b kb h0 n0 _ s₁.heap _
  rw [e0]
  exact ⟨rfl, N0, rfl⟩
theorem own_d1_0 : decode prog_96_method_1_code 0 = .ok (.aload_n 0, 1) := by decide +kernel
theorem own_d1_1 : decode prog_96_method_1_code 1 = .ok (.invokespecial 1, 3) := by decide +kernel
theorem own_d1_4 : decode prog_96_method_1_code 4 = .ok (.aload_n 0, 1) := by decide +kernel
theorem own_d1_5 : decode prog_96_method_1_code 5 = .ok (.aload_n 1, 1) := by decide +kernel
theorem own_d1_6 : decode prog_96_method_1_code 6 = .ok (.putfield 7, 3) := by decide +kernel
theorem own_d1_9 : decode prog_96_method_1_code 9 = .ok (.aload_n 0, 1) := by decide +kernel
theorem own_d1_10 : decode prog_96_method_1_code 10 = .ok (.aload_n 2, 1) := by decide +kernel
theorem own_d1_11 : decode prog_96_method_1_code 11 = .ok (.putfield 13, 3) := by decide +kernel
theorem own_d1_14 : decode prog_96_method_1_code 14 = .ok (.aload_n 0, 1) := by decide +kernel
theorem own_d1_15 : decode prog_96_method_1_code 15 = .ok (.bipush 31, 2) := by decide +kernel
theorem own_d1_17 : decode prog_96_method_1_code 17 = .ok (.aload_n 1, 1) := by decide +kernel
theorem own_d1_18 : decode prog_96_method_1_code 18 = .ok (.invokevirtual 17, 3) := by decide +kernel
theorem own_pd_0 : parseMethodDescriptor "()I" = some ⟨[], some .int⟩ := by decide +kernel
theorem own_d1_21 : decode prog_96_method_1_code 21 = .ok (.imul, 1) := by decide +kernel
theorem own_d1_22 : decode prog_96_method_1_code 22 = .ok (.aload_n 2, 1) := by decide +kernel
theorem own_d1_23 : decode prog_96_method_1_code 23 = .ok (.invokestatic 23, 3) := by decide +kernel
theorem own_pd_1 : parseMethodDescriptor "([Ljava/lang/Object;)I" = some ⟨[(.array (.object "java/lang/Object"))], some .int⟩ := by decide +kernel
theorem own_d1_26 : decode prog_96_method_1_code 26 = .ok (.iadd, 1) := by decide +kernel
theorem own_d1_27 : decode prog_96_method_1_code 27 = .ok (.putfield 28, 3) := by decide +kernel
theorem own_d1_30 : decode prog_96_method_1_code 30 = .ok (.return_, 1) := by decide +kernel
theorem own_pn_3 : plainName "com/example/invariant/invariant/State" = true := by first | (simp [plainName, overriddenIn]; done) | decide +kernel
theorem own_ef_sini0 (m : MethodId) (x0 : Addr) (x1 : Addr) (x2 : Addr)  : entryFrame m #[(.ref x0), (.ref x1), (.ref x2)] 3 = mkF m 0 #[.val (.ref x0), .val (.ref x1), .val (.ref x2)] [] := by first | (simp [entryFrame, mkF, argsToLocals, Value.category]; done) | rfl
def own_Q_sini0 (Z : State) (a b : Addr) (kb : ClassId) (w_NONE w_DEF w_EMP w_EL w_ELA mir : Addr) (kd ke : ClassId) (h0 : Heap) (n0 : Nat) (v : Option Value) (h : Heap) (L : List Loc) : Prop := v = none ∧ Fr n0 L ∧ Keep h0 h [a] ∧ Exa Z h a "com/example/invariant/invariant/State"
set_option maxRecDepth 65536 in
set_option maxHeartbeats 40000000 in
theorem own_rm_sini0 (l : Launch) (Z : State) (a0 : Array Value) (hw : ∀ d ∈ tables_1, d.before a0 Z = true) (ws : List Jvm.Cond) (a b : Addr) (kb : ClassId) (w_NONE w_DEF w_EMP w_EL w_ELA mir : Addr) (kd ke : ClassId) (h0 : Heap) (n0 : Nat) (O0 : Old Z n0 h0) (HS : own_St Z w_NONE w_DEF w_EMP w_EL w_ELA mir kd ke) (E1 : Exa Z h0 a "com/example/invariant/invariant/State") (G2 : n0 ≤ a) (F3 : Fld Z h0 a "com/example/invariant/invariant/State" "configuration" "Lcom/example/invariant/invariant/Configuration;" .null) (F4 : Fld Z h0 a "com/example/invariant/invariant/State" "values" "[Lcom/example/invariant/invariant/Value;" .null) (F5 : Fld Z h0 a "com/example/invariant/invariant/State" "hash" "I" (.int (0 : Int32))) (A6 : Arv Z h0 b kb (.object "com/example/invariant/invariant/Value") (0 : Int32) [] .null) (E7 : Exa Z h0 b "[Lcom/example/invariant/invariant/Value;") :
    MetFree l (⟨"com/example/invariant/invariant/State", "<init>", "(Lcom/example/invariant/invariant/Configuration;[Lcom/example/invariant/invariant/Value;)V"⟩ : MethodName) (head1 (Jvm.Cond.code (⟨"com/example/invariant/invariant/State", "<init>", "(Lcom/example/invariant/invariant/Configuration;[Lcom/example/invariant/invariant/Value;)V"⟩ : MethodName) prog_96_method_1_code 3 none :: ws) ({ frames := 1, cells := 0, slots := 0, locals := 19 } : Room)) (fun ar9 U => ar9 = #[(.ref a), (.ref w_NONE), (.ref b)] ∧ Z.Warmed39 U.vm ∧ U.heap = h0) (fun _ _ _ _ _ => True) (fun _ U o U' => ∃ v L, o = .returned v ∧ own_Q_sini0 Z a b kb w_NONE w_DEF w_EMP w_EL w_ELA mir kd ke h0 n0 v U'.heap L ∧ FrameEnd U o U' L ({ frames := 1, cells := 0, slots := 0, locals := 19 } : Room).cells ({ frames := 1, cells := 0, slots := 0, locals := 19 } : Room).slots) := by
  refine MetFree.of_bodySF (plainFor_of_name own_pn_3) hisR ?_
  intro p e s m args below meth c s₁ Bd hml0 hP hK0
  obtain ⟨rfl, hZ, hh⟩ := hP
  have hx := Bd.exec
  have hby := Bd.bytes
  have hml : c.maxLocals = 3 := hml0
  have hown : s.vm.findClass "com/example/invariant/invariant/State" = some m.cls := findClass_of_methodNamed Bd.named
  have hnm := (name_of_methodNamed Bd.named Bd.method).1
  have X0 : Stand p l e ({ frames := 1, cells := 0, slots := 0, locals := 19 } : Room) s m #[(.ref a), (.ref w_NONE), (.ref b)] below meth c s₁ [] 0 0 := Stand.of_body Bd
  have e0 : s₁.heap = h0 := by rw [← hh, Bd.state]; rfl
  have N0 := Fr.nil n0
  have K0 := Keep.refl h0 [a]
  refine own_open fun K hK => ?_
  refine own_go (B := s₁.setTop (mkF m 0 #[.val (.ref a), .val (.ref w_NONE), .val (.ref b)] [])) (fun t k => castTop (own_ef_sini0 m a w_NONE b) k) ?_
  refine own_go (B := s₁.setTop (mkF m 1 #[.val (.ref a), .val (.ref w_NONE), .val (.ref b)] [(.ref a)])) (fun t k => XS.aloadN X0.here hx rfl (hb hby own_d1_0) rfl rfl k) ?_
  obtain ⟨T14, X14, e14, st14⟩ := initO X0 hx hZ hown (hw _ (List.mem_of_getElem? (i := 31) rfl)) (hw _ (List.mem_of_getElem? (i := 32) rfl)) (hw _ (List.mem_of_getElem? (i := 33) rfl)) e0 (g := (mkF m 1 #[.val (.ref a), .val (.ref w_NONE), .val (.ref b)] [(.ref a)])) rfl (by rw [hml]; rfl) rfl (hb hby own_d1_1) (by decide) (W := 0) (by show 2 * 0 + _ ≤ _; exact Nat.le_of_eq rfl) (by decide)
  refine own_go (B := T14.setTop (mkF m 4 #[.val (.ref a), .val (.ref w_NONE), .val (.ref b)] [])) (fun t k => st14 _ k) ?_
  refine own_go (B := T14.setTop (mkF m 5 #[.val (.ref a), .val (.ref w_NONE), .val (.ref b)] [(.ref a)])) (fun t k => XS.aloadN X14.here hx rfl (hb hby own_d1_4) rfl rfl k) ?_
  refine own_go (B := T14.setTop (mkF m 6 #[.val (.ref a), .val (.ref w_NONE), .val (.ref b)] [(.ref w_NONE), (.ref a)])) (fun t k => XS.aloadN X14.here hx rfl (hb hby own_d1_5) rfl rfl k) ?_
  obtain ⟨T15, h15, X15, e15, W15, st15⟩ := putF X14 hx hZ hown (host := "") (Or.inl (hw _ (List.mem_of_getElem? (i := 34) rfl))) Via.refl e14 F3 E1 (Or.inr ⟨(hw _ (List.mem_of_getElem? (i := 35) rfl)), rfl, hnm⟩) (hw _ (List.mem_of_getElem? (i := 13) rfl)) (ty := (.object "com/example/invariant/invariant/Configuration")) (by decide) rfl rfl (g := (mkF m 6 #[.val (.ref a), .val (.ref w_NONE), .val (.ref b)] [(.ref w_NONE), (.ref a)])) rfl rfl (hb hby own_d1_6)
  have Fw15 := F3.same W15
  have N15 := Fr.snoc X15 N0 G2
  have O15 := O0.wr W15 G2
  have K15 := K0.wr W15 (Or.inl (by simp))
  refine own_go (B := T15.setTop (mkF m 9 #[.val (.ref a), .val (.ref w_NONE), .val (.ref b)] [])) (fun t k => st15 _ k) ?_
  refine own_go (B := T15.setTop (mkF m 10 #[.val (.ref a), .val (.ref w_NONE), .val (.ref b)] [(.ref a)])) (fun t k => XS.aloadN X15.here hx rfl (hb hby own_d1_9) rfl rfl k) ?_
  refine own_go (B := T15.setTop (mkF m 11 #[.val (.ref a), .val (.ref w_NONE), .val (.ref b)] [(.ref b), (.ref a)])) (fun t k => XS.aloadN X15.here hx rfl (hb hby own_d1_10) rfl rfl k) ?_
  have f16 := (F4.other W15 (Or.inr (slot_ne (Or.inr (hw _ (List.mem_of_getElem? (i := 37) rfl))) (Or.inr (hw _ (List.mem_of_getElem? (i := 35) rfl))) (by decide) (t := (.array (.object "com/example/invariant/invariant/Value"))) (t' := (.object "com/example/invariant/invariant/Configuration")) (by decide) (by decide))))
  have f17 := (E1.wr W15)
  obtain ⟨T18, h18, X18, e18, W18, st18⟩ := putF X15 hx hZ hown (host := "") (Or.inl (hw _ (List.mem_of_getElem? (i := 36) rfl))) Via.refl e15 f16 f17 (Or.inr ⟨(hw _ (List.mem_of_getElem? (i := 37) rfl)), rfl, hnm⟩) (hw _ (List.mem_of_getElem? (i := 13) rfl)) (ty := (.array (.object "com/example/invariant/invariant/Value"))) (by decide) rfl rfl (g := (mkF m 11 #[.val (.ref a), .val (.ref w_NONE), .val (.ref b)] [(.ref b), (.ref a)])) rfl rfl (hb hby own_d1_11)
  have Fw18 := f16.same W18
  have N18 := Fr.snoc X18 N15 G2
  have O18 := O15.wr W18 G2
  have K18 := K15.wr W18 (Or.inl (by simp))
  refine own_go (B := T18.setTop (mkF m 14 #[.val (.ref a), .val (.ref w_NONE), .val (.ref b)] [])) (fun t k => st18 _ k) ?_
  refine own_go (B := T18.setTop (mkF m 15 #[.val (.ref a), .val (.ref w_NONE), .val (.ref b)] [(.ref a)])) (fun t k => XS.aloadN X18.here hx rfl (hb hby own_d1_14) rfl rfl k) ?_
  refine own_go (B := T18.setTop (mkF m 17 #[.val (.ref a), .val (.ref w_NONE), .val (.ref b)] [(.int (31 : Int32)), (.ref a)])) (fun t k => XS.bipush X18.here hx rfl (hb hby own_d1_15) k) ?_
  refine own_go (B := T18.setTop (mkF m 18 #[.val (.ref a), .val (.ref w_NONE), .val (.ref b)] [(.ref w_NONE), (.int (31 : Int32)), (.ref a)])) (fun t k => XS.aloadN X18.here hx rfl (hb hby own_d1_17) rfl rfl k) ?_
  obtain ⟨cq19, kq19, q19a, q19b, q19c⟩ := isOf hZ e18 (HS.2.1.ext O18.2)
  obtain ⟨_, _, ⟨T19, L19, k19, n19⟩, -, X19, ⟨Lc19, hQ19, l19, y19, z19⟩, st19⟩ := X18.virtualBack hx (y := (⟨"com/example/invariant/invariant/Configuration", "hashCode", "()I"⟩ : MethodName)) (z := (⟨"com/example/invariant/invariant/Configuration", "hashCode", "()I"⟩ : MethodName)) hown (mvT hZ (hw _ (List.mem_of_getElem? (i := 38) rfl))) (mvT hZ (hw _ (List.mem_of_getElem? (i := 39) rfl))) (notFace_of_selects (args := #[]) (mvT hZ (hw _ (List.mem_of_getElem? (i := 41) rfl)))) (mvT hZ (hw _ (List.mem_of_getElem? (i := 41) rfl))) (mvT hZ (hw _ (List.mem_of_getElem? (i := 40) rfl))) (by decide) (backOf (W := 2) (own_rm_chash l Z a0 hw [] w_NONE (1 : Int32) h18 n0 O18 HS.2.2.1) hZ (hw _ (List.mem_of_getElem? (i := 42) rfl)) (hw _ (List.mem_of_getElem? (i := 1) rfl)) (by decide) (by decide)) q19a q19c (g := (mkF m 18 #[.val (.ref a), .val (.ref w_NONE), .val (.ref b)] [(.ref w_NONE), (.int (31 : Int32)), (.ref a)])) rfl (by rw [hml]; rfl) (Steps.refl _) (argsL := []) (rest := [(.int (31 : Int32)), (.ref a)]) (lenOf own_pd_0 rfl) rfl (by show 2 * 0 + _ ≤ _; exact Nat.le_of_eq rfl) (hb hby own_d1_18) (fun _ _ => ⟨rfl, e18, (by decide : 0 + 0 ≤ _), (by decide : 0 + 0 ≤ _)⟩)
  dsimp only [Pt.U, Pt.locs, Pt.cells, Pt.slots] at X19 l19 y19 z19 st19 hQ19
  subst l19 y19 z19
  obtain ⟨rfl, N19q, eh19⟩ := hQ19
  have N19 := Fr.app N18 N19q
  refine own_go (B := T19.setTop (mkF m 21 #[.val (.ref a), .val (.ref w_NONE), .val (.ref b)] [(.int (1 : Int32)), (.int (31 : Int32)), (.ref a)])) (fun t k => st19.trans k) ?_
  refine own_go (B := T19.setTop (mkF m 22 #[.val (.ref a), .val (.ref w_NONE), .val (.ref b)] [(.int (31 : Int32)), (.ref a)])) (fun t k => XS.imul X19.here hx rfl (hb hby own_d1_21) rfl k) ?_
  refine own_go (B := T19.setTop (mkF m 23 #[.val (.ref a), .val (.ref w_NONE), .val (.ref b)] [(.ref b), (.int (31 : Int32)), (.ref a)])) (fun t k => XS.aloadN X19.here hx rfl (hb hby own_d1_22) rfl rfl k) ?_
  have f20 := ((E7.wr W15).wr W18)
  have f21 := (f17.wr W18)
  have f22 := ((A6.other W15 (ne_exa f20 f21 (by decide))).other W18 (ne_exa f20 f21 (by decide)))
  obtain ⟨_, _, ⟨T23, L23, k23, n23⟩, -, X23, ⟨Lc23, hQ23, l23, y23, z23⟩, st23⟩ := Jvm.LawKit.callS X19 hx (y := (⟨"java/util/Arrays", "hashCode", "([Ljava/lang/Object;)I"⟩ : MethodName)) hown (mvT hZ (hw _ (List.mem_of_getElem? (i := 45) rfl))) (mvT hZ (hw _ (List.mem_of_getElem? (i := 46) rfl))) (mvT hZ (hw _ (List.mem_of_getElem? (i := 47) rfl))) (mvT hZ (hw _ (List.mem_of_getElem? (i := 48) rfl))) (by decide) (backOf (W := 2) (own_rm_hash0 l Z a0 hw [] b kb h18 n0 O18 f22) hZ (hw _ (List.mem_of_getElem? (i := 48) rfl)) (hw _ (List.mem_of_getElem? (i := 47) rfl)) (by decide) (by decide)) (g := (mkF m 23 #[.val (.ref a), .val (.ref w_NONE), .val (.ref b)] [(.ref b), (.int (31 : Int32)), (.ref a)])) rfl (by rw [hml]; rfl) (argsL := [(.ref b)]) (rest := [(.int (31 : Int32)), (.ref a)]) (lenOf own_pd_1 rfl) rfl (by show 2 * 0 + _ ≤ _; exact Nat.le_of_eq rfl) (hb hby own_d1_23) (fun _ _ => ⟨rfl, eh19, (by decide : 0 + 0 ≤ _), (by decide : 0 + 0 ≤ _)⟩)
  dsimp only [Pt.U, Pt.locs, Pt.cells, Pt.slots] at X23 l23 y23 z23 st23 hQ23
  subst l23 y23 z23
  obtain ⟨rfl, N23q, eh23⟩ := hQ23
  have N23 := Fr.app N19 N23q
  refine own_go (B := T23.setTop (mkF m 26 #[.val (.ref a), .val (.ref w_NONE), .val (.ref b)] [(.int (1 : Int32)), (.int (31 : Int32)), (.ref a)])) (fun t k => st23 _ k) ?_
  refine own_go (B := T23.setTop (mkF m 27 #[.val (.ref a), .val (.ref w_NONE), .val (.ref b)] [(.int (32 : Int32)), (.ref a)])) (fun t k => XS.iadd X23.here hx rfl (hb hby own_d1_26) rfl k) ?_
  have f24 := ((F5.other W15 (Or.inr (slot_ne (Or.inr (hw _ (List.mem_of_getElem? (i := 50) rfl))) (Or.inr (hw _ (List.mem_of_getElem? (i := 35) rfl))) (by decide) (t := .int) (t' := (.object "com/example/invariant/invariant/Configuration")) (by decide) (by decide)))).other W18 (Or.inr (slot_ne (Or.inr (hw _ (List.mem_of_getElem? (i := 50) rfl))) (Or.inr (hw _ (List.mem_of_getElem? (i := 37) rfl))) (by decide) (t := .int) (t' := (.array (.object "com/example/invariant/invariant/Value"))) (by decide) (by decide))))
  obtain ⟨T25, h25, X25, e25, W25, st25⟩ := putF X23 hx hZ hown (host := "") (Or.inl (hw _ (List.mem_of_getElem? (i := 49) rfl))) Via.refl eh23 f24 f21 (Or.inr ⟨(hw _ (List.mem_of_getElem? (i := 50) rfl)), rfl, hnm⟩) (hw _ (List.mem_of_getElem? (i := 13) rfl)) (ty := .int) (by decide) rfl rfl (g := (mkF m 27 #[.val (.ref a), .val (.ref w_NONE), .val (.ref b)] [(.int (32 : Int32)), (.ref a)])) rfl rfl (hb hby own_d1_27)
  have Fw25 := f24.same W25
  have N25 := Fr.snoc X25 N23 G2
  have O25 := O18.wr W25 G2
  have K25 := K18.wr W25 (Or.inl (by simp))
  refine own_go (B := T25.setTop (mkF m 30 #[.val (.ref a), .val (.ref w_NONE), .val (.ref b)] [])) (fun t k => st25 _ k) ?_
  obtain ⟨fs, hr, hrun, hended, hW, hsame⟩ := X25.leave (v := none) (fun _ => rfl)
  have f27 := (f21.wr W25)
  refine ⟨_, _, X25.returnOut hx Bd.returns (hb hby own_d1_30) hr, hK _ _ ⟨hrun, hended, _, _, rfl, ?_, ⟨_, rfl⟩, hW, hsame.mono (by decide) (by decide)⟩⟩
  show own_Q_sini0 Z a b kb w_NONE w_DEF w_EMP w_EL w_ELA mir kd ke h0 n0 _ T25.heap _
  rw [e25]
  exact ⟨rfl, N25, K25, f27⟩
theorem own_d3_0 : decode prog_96_method_3_code 0 = .ok (.new 8, 3) := by decide +kernel
theorem own_d3_3 : decode prog_96_method_3_code 3 = .ok (.dup, 1) := by decide +kernel
theorem own_d3_4 : decode prog_96_method_3_code 4 = .ok (.aload_n 0, 1) := by decide +kernel
theorem own_d3_5 : decode prog_96_method_3_code 5 = .ok (.ldc 38, 2) := by decide +kernel
theorem own_strAtoms : ∀ d ∈ Bundle.stringAtoms, d ∈ tables_1 := by decide +kernel
theorem own_d3_7 : decode prog_96_method_3_code 7 = .ok (.invokestatic 39, 3) := by decide +kernel
theorem own_pd_2 : parseMethodDescriptor "(Ljava/lang/Object;Ljava/lang/String;)Ljava/lang/Object;" = some ⟨[(.object "java/lang/Object"), (.object "java/lang/String")], some (.object "java/lang/Object")⟩ := by decide +kernel
theorem own_d3_10 : decode prog_96_method_3_code 10 = .ok (.checkcast 18, 3) := by decide +kernel
theorem own_d3_13 : decode prog_96_method_3_code 13 = .ok (.aload_n 1, 1) := by decide +kernel
theorem own_d3_14 : decode prog_96_method_3_code 14 = .ok (.invokespecial 45, 3) := by decide +kernel
theorem own_pd_3 : parseMethodDescriptor "(Lcom/example/invariant/invariant/Configuration;[Lcom/example/invariant/invariant/Value;)V" = some ⟨[(.object "com/example/invariant/invariant/Configuration"), (.array (.object "com/example/invariant/invariant/Value"))], none⟩ := by decide +kernel
theorem own_d3_17 : decode prog_96_method_3_code 17 = .ok (.areturn, 1) := by decide +kernel
theorem own_ef_of0 (m : MethodId) (x0 : Addr) (x1 : Addr)  : entryFrame m #[(.ref x0), (.ref x1)] 2 = mkF m 0 #[.val (.ref x0), .val (.ref x1)] [] := by first | (simp [entryFrame, mkF, argsToLocals, Value.category]; done) | rfl
def own_Q_of0 (Z : State) (b : Addr) (kb : ClassId) (w_NONE w_DEF w_EMP w_EL w_ELA mir : Addr) (kd ke : ClassId) (h0 : Heap) (n0 : Nat) (v : Option Value) (h : Heap) (L : List Loc) : Prop := ∃ r : Addr, v = some (.ref r) ∧ Fr n0 L ∧ Ext h0 h ∧ h0.size ≤ r ∧ Exa Z h r "com/example/invariant/invariant/State"
set_option maxRecDepth 65536 in
set_option maxHeartbeats 40000000 in
theorem own_rm_of0 (l : Launch) (Z : State) (a0 : Array Value) (hw : ∀ d ∈ tables_1, d.before a0 Z = true) (ws : List Jvm.Cond) (b : Addr) (kb : ClassId) (w_NONE w_DEF w_EMP w_EL w_ELA mir : Addr) (kd ke : ClassId) (h0 : Heap) (n0 : Nat) (O0 : Old Z n0 h0) (HS : own_St Z w_NONE w_DEF w_EMP w_EL w_ELA mir kd ke) (A1 : Arv Z h0 b kb (.object "com/example/invariant/invariant/Value") (0 : Int32) [] .null) (E2 : Exa Z h0 b "[Lcom/example/invariant/invariant/Value;") :
    MetFree l (⟨"com/example/invariant/invariant/State", "of", "(Lcom/example/invariant/invariant/Configuration;[Lcom/example/invariant/invariant/Value;)Lcom/example/invariant/invariant/State;"⟩ : MethodName) (head1 (Jvm.Cond.code (⟨"com/example/invariant/invariant/State", "of", "(Lcom/example/invariant/invariant/Configuration;[Lcom/example/invariant/invariant/Value;)Lcom/example/invariant/invariant/State;"⟩ : MethodName) prog_96_method_3_code 2 (some (.object "com/example/invariant/invariant/State")) :: ws) ({ frames := 2, cells := 3, slots := 59, locals := 34 } : Room)) (fun ar9 U => ar9 = #[(.ref w_NONE), (.ref b)] ∧ Z.Warmed39 U.vm ∧ U.heap = h0) (fun _ _ _ _ _ => True) (fun _ U o U' => ∃ v L, o = .returned v ∧ own_Q_of0 Z b kb w_NONE w_DEF w_EMP w_EL w_ELA mir kd ke h0 n0 v U'.heap L ∧ ReturnedEndW U o U' L ({ frames := 2, cells := 3, slots := 59, locals := 34 } : Room).cells ({ frames := 2, cells := 3, slots := 59, locals := 34 } : Room).slots) := by
  refine MetFree.of_bodySF (plainFor_of_name own_pn_3) hisR ?_
  intro p e s m args below meth c s₁ Bd hml0 hP hK0
  obtain ⟨rfl, hZ, hh⟩ := hP
  have hx := Bd.exec
  have hby := Bd.bytes
  have hml : c.maxLocals = 2 := hml0
  have hown : s.vm.findClass "com/example/invariant/invariant/State" = some m.cls := findClass_of_methodNamed Bd.named
  have hnm := (name_of_methodNamed Bd.named Bd.method).1
  have X0 : Stand p l e ({ frames := 2, cells := 3, slots := 59, locals := 34 } : Room) (s.setVm s.vm) m #[(.ref w_NONE), (.ref b)] below meth c s₁ [] 0 0 := Stand.of_body Bd
  have e0 : s₁.heap = h0 := by rw [← hh, Bd.state]; rfl
  have N0 := Fr.nil n0
  have K0 := Keep.refl h0 []
  have hS0 : s.Since s.vm h0.size := (State.WarmedH.refl s).since _
  have hk0 : h0.size ≤ h0.size := Nat.le_refl _
  refine own_open fun K hK => ?_
  refine own_go (B := s₁.setTop (mkF m 0 #[.val (.ref w_NONE), .val (.ref b)] [])) (fun t k => castTop (own_ef_of0 m w_NONE b) k) ?_
  obtain ⟨T28, h28, X28, e28, E28, A28, D28, -, st28⟩ := newO X0 hx hZ hown (hw _ (List.mem_of_getElem? (i := 12) rfl)) (hw _ (List.mem_of_getElem? (i := 13) rfl)) (hw _ (List.mem_of_getElem? (i := 5) rfl)) e0 (g := (mkF m 0 #[.val (.ref w_NONE), .val (.ref b)] [])) rfl (hb hby own_d3_0) (by decide) (by decide)
  obtain ⟨b28, g28⟩ : ∃ z, z = h0.size := ⟨_, rfl⟩
  rw [← g28] at A28 D28 st28
  have lt_b_28 := A1.lt
  have g_b28 : n0 ≤ b28 := Nat.le_trans (own_n0 O0) (Nat.le_of_eq g28.symm)
  have O28 := O0.ext E28
  have sz_b28 : h0.size ≤ b28 := Nat.le_trans K0.1 (Nat.le_of_eq g28.symm)
  have hk29 := Nat.le_trans hk0 E28.1
  have K28 := K0.ext E28
  have F28_35 : Fld Z h28 b28 "com/example/invariant/invariant/State" "configuration" "Lcom/example/invariant/invariant/Configuration;" .null := D28 (Or.inr (hw _ (List.mem_of_getElem? (i := 35) rfl))) (ty := (.object "com/example/invariant/invariant/Configuration")) (by decide)
  have F28_37 : Fld Z h28 b28 "com/example/invariant/invariant/State" "values" "[Lcom/example/invariant/invariant/Value;" .null := D28 (Or.inr (hw _ (List.mem_of_getElem? (i := 37) rfl))) (ty := (.array (.object "com/example/invariant/invariant/Value"))) (by decide)
  have F28_50 : Fld Z h28 b28 "com/example/invariant/invariant/State" "hash" "I" (.int (0 : Int32)) := D28 (Or.inr (hw _ (List.mem_of_getElem? (i := 50) rfl))) (ty := .int) (by decide)
  refine own_go (B := T28.setTop (mkF m 3 #[.val (.ref w_NONE), .val (.ref b)] [(.ref b28)])) (fun t k => st28 _ k) ?_
  refine own_go (B := T28.setTop (mkF m 4 #[.val (.ref w_NONE), .val (.ref b)] [(.ref b28), (.ref b28)])) (fun t k => XS.dup X28.here hx rfl (hb hby own_d3_3) rfl rfl k) ?_
  refine own_go (B := T28.setTop (mkF m 5 #[.val (.ref w_NONE), .val (.ref b)] [(.ref w_NONE), (.ref b28), (.ref b28)])) (fun t k => XS.aloadN X28.here hx rfl (hb hby own_d3_4) rfl rfl k) ?_
  obtain ⟨a30, T30, h30, k30, X30, e30, E30, hS30, hkk30, hZ, hown, st30⟩ := ldcS X28 hx hZ hown (hw _ (List.mem_of_getElem? (i := 14) rfl)) (fun d hd => hw d (own_strAtoms d hd)) e28 hS0 hk29 (g := (mkF m 5 #[.val (.ref w_NONE), .val (.ref b)] [(.ref w_NONE), (.ref b28), (.ref b28)])) rfl (hb hby own_d3_5) (n := 52) (by decide) (by decide) (by decide) (by decide)
  have O30 := O28.ext E30
  have hk31 := Nat.le_trans hk29 E30.1
  have K30 := K28.ext E30
  refine own_go (B := T30.setTop (mkF m 7 #[.val (.ref w_NONE), .val (.ref b)] [(.ref a30), (.ref w_NONE), (.ref b28), (.ref b28)])) (fun t k => st30 _ k) ?_
  obtain ⟨_, _, ⟨T32, L32, k32, n32⟩, -, X32, ⟨Lc32, hQ32, l32, y32, z32⟩, st32⟩ := Jvm.LawKit.callS X30 hx (y := (⟨"java/util/Objects", "requireNonNull", "(Ljava/lang/Object;Ljava/lang/String;)Ljava/lang/Object;"⟩ : MethodName)) hown (mvT hZ (hw _ (List.mem_of_getElem? (i := 22) rfl))) (mvT hZ (hw _ (List.mem_of_getElem? (i := 23) rfl))) (mvT hZ (hw _ (List.mem_of_getElem? (i := 24) rfl))) (mvT hZ (hw _ (List.mem_of_getElem? (i := 25) rfl))) (by decide) (backOf (W := 2) (own_rm_rnn2 l Z a0 hw [] w_NONE a30 h30 n0 O30 ) hZ (hw _ (List.mem_of_getElem? (i := 25) rfl)) (hw _ (List.mem_of_getElem? (i := 24) rfl)) (by decide) (by decide)) (g := (mkF m 7 #[.val (.ref w_NONE), .val (.ref b)] [(.ref a30), (.ref w_NONE), (.ref b28), (.ref b28)])) rfl (by rw [hml]; rfl) (argsL := [(.ref w_NONE), (.ref a30)]) (rest := [(.ref b28), (.ref b28)]) (lenOf own_pd_2 rfl) rfl (by show 2 * 0 + _ ≤ _; exact Nat.le_of_eq rfl) (hb hby own_d3_7) (fun _ _ => ⟨rfl, e30, (by decide : 3 + 0 ≤ _), (by decide : 59 + 0 ≤ _)⟩)
  dsimp only [Pt.U, Pt.locs, Pt.cells, Pt.slots] at X32 l32 y32 z32 st32 hQ32
  subst l32 y32 z32
  obtain ⟨rfl, N32q, eh32⟩ := hQ32
  have N32 := Fr.app N0 N32q
  refine own_go (B := T32.setTop (mkF m 10 #[.val (.ref w_NONE), .val (.ref b)] [(.ref w_NONE), (.ref b28), (.ref b28)])) (fun t k => st32 _ k) ?_
  obtain ⟨T33, X33, e33, st33⟩ := castY X32 hx hZ hown (hw _ (List.mem_of_getElem? (i := 26) rfl)) eh32 (Ins.self (HS.2.1.ext O30.2)) (g := (mkF m 10 #[.val (.ref w_NONE), .val (.ref b)] [(.ref w_NONE), (.ref b28), (.ref b28)])) rfl rfl (hb hby own_d3_10)
  refine own_go (B := T33.setTop (mkF m 13 #[.val (.ref w_NONE), .val (.ref b)] [(.ref w_NONE), (.ref b28), (.ref b28)])) (fun t k => st33 _ k) ?_
  refine own_go (B := T33.setTop (mkF m 14 #[.val (.ref w_NONE), .val (.ref b)] [(.ref b), (.ref w_NONE), (.ref b28), (.ref b28)])) (fun t k => XS.aloadN X33.here hx rfl (hb hby own_d3_13) rfl rfl k) ?_
  have f34 := (A28.ext E30)
  have f35 := (F28_35.ext E30)
  have f36 := (F28_37.ext E30)
  have f37 := (F28_50.ext E30)
  have f38 := ((A1.ext E28).ext E30)
  have f39 := ((E2.ext E28).ext E30)
  have lt_b_40 := f38.lt
  have lt_b28_40 := f34.lt
  obtain ⟨_, _, ⟨T41, L41, k41, n41⟩, -, X41, ⟨Lc41, hQ41, l41, y41, z41⟩, st41⟩ := X33.specialBack hx (y := (⟨"com/example/invariant/invariant/State", "<init>", "(Lcom/example/invariant/invariant/Configuration;[Lcom/example/invariant/invariant/Value;)V"⟩ : MethodName)) rfl hown (mvT hZ (hw _ (List.mem_of_getElem? (i := 28) rfl))) (mvT hZ (hw _ (List.mem_of_getElem? (i := 29) rfl))) (mvT hZ (hw _ (List.mem_of_getElem? (i := 30) rfl))) (by decide) (backOf (W := 1) (own_rm_sini0 l Z a0 hw [] b28 b kb w_NONE w_DEF w_EMP w_EL w_ELA mir kd ke h30 n0 O30 HS f34 g_b28 f35 f36 f37 f38 f39) hZ (hw _ (List.mem_of_getElem? (i := 30) rfl)) (hw _ (List.mem_of_getElem? (i := 5) rfl)) (by decide) (by decide)) (g := (mkF m 14 #[.val (.ref w_NONE), .val (.ref b)] [(.ref b), (.ref w_NONE), (.ref b28), (.ref b28)])) rfl (by rw [hml]; rfl) (Steps.refl _) (a := b28) (argsL := [(.ref w_NONE), (.ref b)]) (rest := [(.ref b28)]) (lenOf own_pd_3 rfl) rfl (by show 2 * 0 + _ ≤ _; exact Nat.le_of_eq rfl) (hb hby own_d3_14) (fun _ _ => ⟨rfl, e33, (by decide : 3 + 0 ≤ _), (by decide : 59 + 0 ≤ _)⟩)
  dsimp only [Pt.U, Pt.locs, Pt.cells, Pt.slots] at X41 l41 y41 z41 st41 hQ41
  subst l41 y41 z41
  obtain ⟨rfl, N41q, Kc41, Q41_0⟩ := hQ41
  have O41 := O30.keep Kc41 (allS g_b28 all0)
  have hk42 := Nat.le_trans hkk30 Kc41.1
  have K41 := K30.trans Kc41 (allS (Or.inr sz_b28) all0)
  have N41 := Fr.app N32 N41q
  refine own_go (B := T41.setTop (mkF m 17 #[.val (.ref w_NONE), .val (.ref b)] [(.ref b28)])) (fun t k => st41.trans k) ?_
  obtain ⟨fs, hr, hrun, hended, hREW⟩ := X41.leaveW hS30 (by rw [(rfl : T41.heap = T41.heap)]; exact hk42) (v := some (.ref b28)) (fun h => by rw [Bd.returns] at h; cases h)
  have Ex44 : Ext h0 T41.heap := ⟨K41.1, fun x c q => K41.2.1 x c q nin0⟩
  refine ⟨_, _, own_retA X41 hx Bd.returns rfl rfl (hb hby own_d3_17) hr, hK _ _ ⟨hrun, hended, _, _, rfl, ?_, ⟨_, rfl⟩, hREW.2.1, hREW.2.2.1, hREW.2.2.2.mono (by decide) (by decide)⟩⟩
  show own_Q_of0 Z b kb w_NONE w_DEF w_EMP w_EL w_ELA mir kd ke h0 n0 _ T41.heap _
  exact ⟨b28, rfl, N41, Ex44, sz_b28, Q41_0⟩
theorem own_d26_22 : decode jdk_65_method_157_code 22 = .ok (.aload_n 2, 1) := by decide +kernel
theorem own_d26_23 : decode jdk_65_method_157_code 23 = .ok (.iload 4, 2) := by decide +kernel
theorem own_d26_25 : decode jdk_65_method_157_code 25 = .ok (.aaload, 1) := by decide +kernel
theorem own_d26_26 : decode jdk_65_method_157_code 26 = .ok (.astore 5, 2) := by decide +kernel
theorem own_d26_28 : decode jdk_65_method_157_code 28 = .ok (.bipush 31, 2) := by decide +kernel
theorem own_d26_30 : decode jdk_65_method_157_code 30 = .ok (.iload_n 1, 1) := by decide +kernel
theorem own_d26_31 : decode jdk_65_method_157_code 31 = .ok (.imul, 1) := by decide +kernel
theorem own_d26_32 : decode jdk_65_method_157_code 32 = .ok (.aload 5, 2) := by decide +kernel
theorem own_d26_34 : decode jdk_65_method_157_code 34 = .ok (.ifnonnull 7, 3) := by decide +kernel
theorem own_d26_37 : decode jdk_65_method_157_code 37 = .ok (.iconst 0, 1) := by decide +kernel
theorem own_d26_38 : decode jdk_65_method_157_code 38 = .ok (.goto 8, 3) := by decide +kernel
theorem own_d26_46 : decode jdk_65_method_157_code 46 = .ok (.iadd, 1) := by decide +kernel
theorem own_d26_47 : decode jdk_65_method_157_code 47 = .ok (.istore_n 1, 1) := by decide +kernel
theorem own_d26_48 : decode jdk_65_method_157_code 48 = .ok (.iinc 4 1, 3) := by decide +kernel
theorem own_d26_51 : decode jdk_65_method_157_code 51 = .ok (.goto (-35), 3) := by decide +kernel
theorem own_ef_hash1 (m : MethodId) (x0 : Addr)  : entryFrame m #[(.ref x0)] 6 = mkF m 0 #[.val (.ref x0), .unset, .unset, .unset, .unset, .unset] [] := by first | (simp [entryFrame, mkF, argsToLocals, Value.category]; done) | rfl
def own_Q_hash1 (Z : State) (b : Addr) (kb : ClassId) (h0 : Heap) (n0 : Nat) (v : Option Value) (h : Heap) (L : List Loc) : Prop := v = some (.int (31 : Int32)) ∧ Fr n0 L ∧ h = h0
set_option maxRecDepth 65536 in
set_option maxHeartbeats 40000000 in
theorem own_rm_hash1 (l : Launch) (Z : State) (a0 : Array Value) (hw : ∀ d ∈ tables_1, d.before a0 Z = true) (ws : List Jvm.Cond) (b : Addr) (kb : ClassId) (h0 : Heap) (n0 : Nat) (O0 : Old Z n0 h0) (A0 : Arv Z h0 b kb (.object "com/example/invariant/invariant/Value") (1 : Int32) [.null] .null) :
    MetFree l (⟨"java/util/Arrays", "hashCode", "([Ljava/lang/Object;)I"⟩ : MethodName) (head1 (Jvm.Cond.code (⟨"java/util/Arrays", "hashCode", "([Ljava/lang/Object;)I"⟩ : MethodName) jdk_65_method_157_code 6 (some .int) :: ws) ({ frames := 0, cells := 0, slots := 0, locals := 0 } : Room)) (fun ar9 U => ar9 = #[(.ref b)] ∧ Z.Warmed39 U.vm ∧ U.heap = h0) (fun _ _ _ _ _ => True) (fun _ U o U' => ∃ v L, o = .returned v ∧ own_Q_hash1 Z b kb h0 n0 v U'.heap L ∧ FrameEnd U o U' L ({ frames := 0, cells := 0, slots := 0, locals := 0 } : Room).cells ({ frames := 0, cells := 0, slots := 0, locals := 0 } : Room).slots) := by
  refine MetFree.of_bodySF (plainFor_of_name own_pn_2) hisR ?_
  intro p e s m args below meth c s₁ Bd hml0 hP hK0
  obtain ⟨rfl, hZ, hh⟩ := hP
  have hx := Bd.exec
  have hby := Bd.bytes
  have hml : c.maxLocals = 6 := hml0
  have hown : s.vm.findClass "java/util/Arrays" = some m.cls := findClass_of_methodNamed Bd.named
  have hnm := (name_of_methodNamed Bd.named Bd.method).1
  have X0 : Stand p l e ({ frames := 0, cells := 0, slots := 0, locals := 0 } : Room) s m #[(.ref b)] below meth c s₁ [] 0 0 := Stand.of_body Bd
  have e0 : s₁.heap = h0 := by rw [← hh, Bd.state]; rfl
  have N0 := Fr.nil n0
  refine own_open fun K hK => ?_
  refine own_go (B := s₁.setTop (mkF m 0 #[.val (.ref b), .unset, .unset, .unset, .unset, .unset] [])) (fun t k => castTop (own_ef_hash1 m b) k) ?_
  refine own_go (B := s₁.setTop (mkF m 1 #[.val (.ref b), .unset, .unset, .unset, .unset, .unset] [(.ref b)])) (fun t k => XS.aloadN X0.here hx rfl (hb hby own_d26_0) rfl rfl k) ?_
  refine own_go (B := s₁.setTop (mkF m 6 #[.val (.ref b), .unset, .unset, .unset, .unset, .unset] [])) (fun t k => XS.ifnonnullYes X0.here hx rfl (pc0 := 1) (pc' := 6) rfl (hb hby own_d26_1) rfl (by decide) (by decide) k) ?_
  refine own_go (B := s₁.setTop (mkF m 7 #[.val (.ref b), .unset, .unset, .unset, .unset, .unset] [(.int (1 : Int32))])) (fun t k => XS.iconst X0.here hx rfl (hb hby own_d26_6) k) ?_
  refine own_go (B := s₁.setTop (mkF m 8 #[.val (.ref b), .val (.int (1 : Int32)), .unset, .unset, .unset, .unset] [])) (fun t k => XS.istoreN X0.here hx rfl (hb hby own_d26_7) rfl (l' := #[.val (.ref b), .val (.int (1 : Int32)), .unset, .unset, .unset, .unset]) rfl k) ?_
  refine own_go (B := s₁.setTop (mkF m 9 #[.val (.ref b), .val (.int (1 : Int32)), .unset, .unset, .unset, .unset] [(.ref b)])) (fun t k => XS.aloadN X0.here hx rfl (hb hby own_d26_8) rfl rfl k) ?_
  refine own_go (B := s₁.setTop (mkF m 10 #[.val (.ref b), .val (.int (1 : Int32)), .val (.ref b), .unset, .unset, .unset] [])) (fun t k => XS.astoreN X0.here hx rfl (hb hby own_d26_9) rfl rfl (l' := #[.val (.ref b), .val (.int (1 : Int32)), .val (.ref b), .unset, .unset, .unset]) rfl k) ?_
  refine own_go (B := s₁.setTop (mkF m 11 #[.val (.ref b), .val (.int (1 : Int32)), .val (.ref b), .unset, .unset, .unset] [(.ref b)])) (fun t k => XS.aloadN X0.here hx rfl (hb hby own_d26_10) rfl rfl k) ?_
  obtain ⟨cl45, Ar45, qr45, Sr45, Nr45, Hr45, Gr45⟩ := id A0
  refine own_go (B := s₁.setTop (mkF m 12 #[.val (.ref b), .val (.int (1 : Int32)), .val (.ref b), .unset, .unset, .unset] [(.int (1 : Int32))])) (fun t k => X0.arraylength hx (by rw [e0]; exact Ar45.1) (State.isArrayOf_alike hZ.alike Ar45.2.1) (g := (mkF m 11 #[.val (.ref b), .val (.int (1 : Int32)), .val (.ref b), .unset, .unset, .unset] [(.ref b)])) rfl rfl (hb hby own_d26_11) _ (by rw [len_of Sr45 Nr45]; exact k)) ?_
  refine own_go (B := s₁.setTop (mkF m 13 #[.val (.ref b), .val (.int (1 : Int32)), .val (.ref b), .val (.int (1 : Int32)), .unset, .unset] [])) (fun t k => XS.istoreN X0.here hx rfl (hb hby own_d26_12) rfl (l' := #[.val (.ref b), .val (.int (1 : Int32)), .val (.ref b), .val (.int (1 : Int32)), .unset, .unset]) rfl k) ?_
  refine own_go (B := s₁.setTop (mkF m 14 #[.val (.ref b), .val (.int (1 : Int32)), .val (.ref b), .val (.int (1 : Int32)), .unset, .unset] [(.int (0 : Int32))])) (fun t k => XS.iconst X0.here hx rfl (hb hby own_d26_13) k) ?_
  refine own_go (B := s₁.setTop (mkF m 16 #[.val (.ref b), .val (.int (1 : Int32)), .val (.ref b), .val (.int (1 : Int32)), .val (.int (0 : Int32)), .unset] [])) (fun t k => XS.istore X0.here hx rfl (hb hby own_d26_14) rfl (l' := #[.val (.ref b), .val (.int (1 : Int32)), .val (.ref b), .val (.int (1 : Int32)), .val (.int (0 : Int32)), .unset]) rfl k) ?_
  refine own_go (B := s₁.setTop (mkF m 18 #[.val (.ref b), .val (.int (1 : Int32)), .val (.ref b), .val (.int (1 : Int32)), .val (.int (0 : Int32)), .unset] [(.int (0 : Int32))])) (fun t k => XS.iload X0.here hx rfl (hb hby own_d26_16) rfl k) ?_
  refine own_go (B := s₁.setTop (mkF m 19 #[.val (.ref b), .val (.int (1 : Int32)), .val (.ref b), .val (.int (1 : Int32)), .val (.int (0 : Int32)), .unset] [(.int (1 : Int32)), (.int (0 : Int32))])) (fun t k => XS.iloadN X0.here hx rfl (hb hby own_d26_18) rfl k) ?_
  refine own_go (B := s₁.setTop (mkF m 22 #[.val (.ref b), .val (.int (1 : Int32)), .val (.ref b), .val (.int (1 : Int32)), .val (.int (0 : Int32)), .unset] [])) (fun t k => XS.icmpNo X0.here hx rfl (hb hby own_d26_19) rfl (tlt (by decide : (0 : Int32) < (1 : Int32))).2.1 k) ?_
  refine own_go (B := s₁.setTop (mkF m 23 #[.val (.ref b), .val (.int (1 : Int32)), .val (.ref b), .val (.int (1 : Int32)), .val (.int (0 : Int32)), .unset] [(.ref b)])) (fun t k => XS.aloadN X0.here hx rfl (hb hby own_d26_22) rfl rfl k) ?_
  refine own_go (B := s₁.setTop (mkF m 25 #[.val (.ref b), .val (.int (1 : Int32)), .val (.ref b), .val (.int (1 : Int32)), .val (.int (0 : Int32)), .unset] [(.int (0 : Int32)), (.ref b)])) (fun t k => XS.iload X0.here hx rfl (hb hby own_d26_23) rfl k) ?_
  obtain ⟨cl47, Ar47, qr47, Sr47, Nr47, Hr47, Gr47⟩ := id A0
  have hin47 : ¬ ((0 : Int32) < 0 ∨ cl47.slots.size ≤ ((0 : Int32)).toNatClampNeg) := inb_of Sr47 ⟨by decide, by decide⟩
  have hat47 : cl47.slots[((0 : Int32)).toNatClampNeg]? = some .null := Has.at Hr47 hin47 rfl
  refine own_go (B := s₁.setTop (mkF m 26 #[.val (.ref b), .val (.int (1 : Int32)), .val (.ref b), .val (.int (1 : Int32)), .val (.int (0 : Int32)), .unset] [.null])) (fun t k => X0.aaload hx (j := (0 : Int32)) (v := .null) (by rw [e0]; exact Ar47.1) (State.isArrayOf_alike hZ.alike Ar47.2.1) rfl Ar47.2.2 hin47 hat47 (g := (mkF m 25 #[.val (.ref b), .val (.int (1 : Int32)), .val (.ref b), .val (.int (1 : Int32)), .val (.int (0 : Int32)), .unset] [(.int (0 : Int32)), (.ref b)])) rfl rfl (hb hby own_d26_25) _ k) ?_
  refine own_go (B := s₁.setTop (mkF m 28 #[.val (.ref b), .val (.int (1 : Int32)), .val (.ref b), .val (.int (1 : Int32)), .val (.int (0 : Int32)), .val .null] [])) (fun t k => XS.astore X0.here hx rfl (hb hby own_d26_26) rfl rfl (l' := #[.val (.ref b), .val (.int (1 : Int32)), .val (.ref b), .val (.int (1 : Int32)), .val (.int (0 : Int32)), .val .null]) rfl k) ?_
  refine own_go (B := s₁.setTop (mkF m 30 #[.val (.ref b), .val (.int (1 : Int32)), .val (.ref b), .val (.int (1 : Int32)), .val (.int (0 : Int32)), .val .null] [(.int (31 : Int32))])) (fun t k => XS.bipush X0.here hx rfl (hb hby own_d26_28) k) ?_
  refine own_go (B := s₁.setTop (mkF m 31 #[.val (.ref b), .val (.int (1 : Int32)), .val (.ref b), .val (.int (1 : Int32)), .val (.int (0 : Int32)), .val .null] [(.int (1 : Int32)), (.int (31 : Int32))])) (fun t k => XS.iloadN X0.here hx rfl (hb hby own_d26_30) rfl k) ?_
  refine own_go (B := s₁.setTop (mkF m 32 #[.val (.ref b), .val (.int (1 : Int32)), .val (.ref b), .val (.int (1 : Int32)), .val (.int (0 : Int32)), .val .null] [(.int (31 : Int32))])) (fun t k => XS.imul X0.here hx rfl (hb hby own_d26_31) rfl k) ?_
  refine own_go (B := s₁.setTop (mkF m 34 #[.val (.ref b), .val (.int (1 : Int32)), .val (.ref b), .val (.int (1 : Int32)), .val (.int (0 : Int32)), .val .null] [.null, (.int (31 : Int32))])) (fun t k => XS.aload X0.here hx rfl (hb hby own_d26_32) rfl rfl k) ?_
  refine own_go (B := s₁.setTop (mkF m 37 #[.val (.ref b), .val (.int (1 : Int32)), .val (.ref b), .val (.int (1 : Int32)), .val (.int (0 : Int32)), .val .null] [(.int (31 : Int32))])) (fun t k => XS.ifnonnullNo X0.here hx rfl (hb hby own_d26_34) rfl k) ?_
  refine own_go (B := s₁.setTop (mkF m 38 #[.val (.ref b), .val (.int (1 : Int32)), .val (.ref b), .val (.int (1 : Int32)), .val (.int (0 : Int32)), .val .null] [(.int (0 : Int32)), (.int (31 : Int32))])) (fun t k => XS.iconst X0.here hx rfl (hb hby own_d26_37) k) ?_
  refine own_go (B := s₁.setTop (mkF m 46 #[.val (.ref b), .val (.int (1 : Int32)), .val (.ref b), .val (.int (1 : Int32)), .val (.int (0 : Int32)), .val .null] [(.int (0 : Int32)), (.int (31 : Int32))])) (fun t k => XS.goto X0.here hx rfl (pc0 := 38) (pc' := 46) rfl (hb hby own_d26_38) (by decide) (by decide) k) ?_
  refine own_go (B := s₁.setTop (mkF m 47 #[.val (.ref b), .val (.int (1 : Int32)), .val (.ref b), .val (.int (1 : Int32)), .val (.int (0 : Int32)), .val .null] [(.int (31 : Int32))])) (fun t k => XS.iadd X0.here hx rfl (hb hby own_d26_46) rfl k) ?_
  refine own_go (B := s₁.setTop (mkF m 48 #[.val (.ref b), .val (.int (31 : Int32)), .val (.ref b), .val (.int (1 : Int32)), .val (.int (0 : Int32)), .val .null] [])) (fun t k => XS.istoreN X0.here hx rfl (hb hby own_d26_47) rfl (l' := #[.val (.ref b), .val (.int (31 : Int32)), .val (.ref b), .val (.int (1 : Int32)), .val (.int (0 : Int32)), .val .null]) rfl k) ?_
  refine own_go (B := s₁.setTop (mkF m 51 #[.val (.ref b), .val (.int (31 : Int32)), .val (.ref b), .val (.int (1 : Int32)), .val (.int (1 : Int32)), .val .null] [])) (fun t k => XS.iinc X0.here hx rfl (hb hby own_d26_48) rfl (l' := #[.val (.ref b), .val (.int (31 : Int32)), .val (.ref b), .val (.int (1 : Int32)), .val (.int (1 : Int32)), .val .null]) rfl k) ?_
  refine own_go (B := s₁.setTop (mkF m 16 #[.val (.ref b), .val (.int (31 : Int32)), .val (.ref b), .val (.int (1 : Int32)), .val (.int (1 : Int32)), .val .null] [])) (fun t k => XS.goto X0.here hx rfl (pc0 := 51) (pc' := 16) rfl (hb hby own_d26_51) (by decide) (by decide) k) ?_
  refine own_go (B := s₁.setTop (mkF m 18 #[.val (.ref b), .val (.int (31 : Int32)), .val (.ref b), .val (.int (1 : Int32)), .val (.int (1 : Int32)), .val .null] [(.int (1 : Int32))])) (fun t k => XS.iload X0.here hx rfl (hb hby own_d26_16) rfl k) ?_
  refine own_go (B := s₁.setTop (mkF m 19 #[.val (.ref b), .val (.int (31 : Int32)), .val (.ref b), .val (.int (1 : Int32)), .val (.int (1 : Int32)), .val .null] [(.int (1 : Int32)), (.int (1 : Int32))])) (fun t k => XS.iloadN X0.here hx rfl (hb hby own_d26_18) rfl k) ?_
  refine own_go (B := s₁.setTop (mkF m 54 #[.val (.ref b), .val (.int (31 : Int32)), .val (.ref b), .val (.int (1 : Int32)), .val (.int (1 : Int32)), .val .null] [])) (fun t k => XS.icmpYes X0.here hx rfl (pc0 := 19) (pc' := 54) rfl (hb hby own_d26_19) rfl (flt (by decide : ¬ ((1 : Int32) < (1 : Int32)))).2.1 (by decide) (by decide) k) ?_
  refine own_go (B := s₁.setTop (mkF m 55 #[.val (.ref b), .val (.int (31 : Int32)), .val (.ref b), .val (.int (1 : Int32)), .val (.int (1 : Int32)), .val .null] [(.int (31 : Int32))])) (fun t k => XS.iloadN X0.here hx rfl (hb hby own_d26_54) rfl k) ?_
  obtain ⟨fs, hr, hrun, hended, hW, hsame⟩ := X0.leave (v := some (.int (31 : Int32))) (fun h => by rw [Bd.returns] at h; cases h)
  refine ⟨_, _, own_retI X0 hx Bd.returns (hb hby own_d26_55) hr, hK _ _ ⟨hrun, hended, _, _, rfl, ?_, ⟨_, rfl⟩, hW, hsame.mono (by decide) (by decide)⟩⟩
  show own_Q_hash1 Z b kb h0 n0 _ s₁.heap _
  rw [e0]
  exact ⟨rfl, N0, rfl⟩
theorem own_ef_sini1 (m : MethodId) (x0 : Addr) (x1 : Addr) (x2 : Addr)  : entryFrame m #[(.ref x0), (.ref x1), (.ref x2)] 3 = mkF m 0 #[.val (.ref x0), .val (.ref x1), .val (.ref x2)] [] := by first | (simp [entryFrame, mkF, argsToLocals, Value.category]; done) | rfl
def own_Q_sini1 (Z : State) (a b : Addr) (kb : ClassId) (w_NONE w_DEF w_EMP w_EL w_ELA mir : Addr) (kd ke : ClassId) (h0 : Heap) (n0 : Nat) (v : Option Value) (h : Heap) (L : List Loc) : Prop := v = none ∧ Fr n0 L ∧ Keep h0 h [a] ∧ Exa Z h a "com/example/invariant/invariant/State"
set_option maxRecDepth 65536 in
set_option maxHeartbeats 40000000 in
theorem own_rm_sini1 (l : Launch) (Z : State) (a0 : Array Value) (hw : ∀ d ∈ tables_1, d.before a0 Z = true) (ws : List Jvm.Cond) (a b : Addr) (kb : ClassId) (w_NONE w_DEF w_EMP w_EL w_ELA mir : Addr) (kd ke : ClassId) (h0 : Heap) (n0 : Nat) (O0 : Old Z n0 h0) (HS : own_St Z w_NONE w_DEF w_EMP w_EL w_ELA mir kd ke) (E1 : Exa Z h0 a "com/example/invariant/invariant/State") (G2 : n0 ≤ a) (F3 : Fld Z h0 a "com/example/invariant/invariant/State" "configuration" "Lcom/example/invariant/invariant/Configuration;" .null) (F4 : Fld Z h0 a "com/example/invariant/invariant/State" "values" "[Lcom/example/invariant/invariant/Value;" .null) (F5 : Fld Z h0 a "com/example/invariant/invariant/State" "hash" "I" (.int (0 : Int32))) (A6 : Arv Z h0 b kb (.object "com/example/invariant/invariant/Value") (1 : Int32) [.null] .null) (E7 : Exa Z h0 b "[Lcom/example/invariant/invariant/Value;") :
    MetFree l (⟨"com/example/invariant/invariant/State", "<init>", "(Lcom/example/invariant/invariant/Configuration;[Lcom/example/invariant/invariant/Value;)V"⟩ : MethodName) (head1 (Jvm.Cond.code (⟨"com/example/invariant/invariant/State", "<init>", "(Lcom/example/invariant/invariant/Configuration;[Lcom/example/invariant/invariant/Value;)V"⟩ : MethodName) prog_96_method_1_code 3 none :: ws) ({ frames := 1, cells := 0, slots := 0, locals := 19 } : Room)) (fun ar9 U => ar9 = #[(.ref a), (.ref w_NONE), (.ref b)] ∧ Z.Warmed39 U.vm ∧ U.heap = h0) (fun _ _ _ _ _ => True) (fun _ U o U' => ∃ v L, o = .returned v ∧ own_Q_sini1 Z a b kb w_NONE w_DEF w_EMP w_EL w_ELA mir kd ke h0 n0 v U'.heap L ∧ FrameEnd U o U' L ({ frames := 1, cells := 0, slots := 0, locals := 19 } : Room).cells ({ frames := 1, cells := 0, slots := 0, locals := 19 } : Room).slots) := by
  refine MetFree.of_bodySF (plainFor_of_name own_pn_3) hisR ?_
  intro p e s m args below meth c s₁ Bd hml0 hP hK0
  obtain ⟨rfl, hZ, hh⟩ := hP
  have hx := Bd.exec
  have hby := Bd.bytes
  have hml : c.maxLocals = 3 := hml0
  have hown : s.vm.findClass "com/example/invariant/invariant/State" = some m.cls := findClass_of_methodNamed Bd.named
  have hnm := (name_of_methodNamed Bd.named Bd.method).1
  have X0 : Stand p l e ({ frames := 1, cells := 0, slots := 0, locals := 19 } : Room) s m #[(.ref a), (.ref w_NONE), (.ref b)] below meth c s₁ [] 0 0 := Stand.of_body Bd
  have e0 : s₁.heap = h0 := by rw [← hh, Bd.state]; rfl
  have N0 := Fr.nil n0
  have K0 := Keep.refl h0 [a]
  refine own_open fun K hK => ?_
  refine own_go (B := s₁.setTop (mkF m 0 #[.val (.ref a), .val (.ref w_NONE), .val (.ref b)] [])) (fun t k => castTop (own_ef_sini1 m a w_NONE b) k) ?_
  refine own_go (B := s₁.setTop (mkF m 1 #[.val (.ref a), .val (.ref w_NONE), .val (.ref b)] [(.ref a)])) (fun t k => XS.aloadN X0.here hx rfl (hb hby own_d1_0) rfl rfl k) ?_
  obtain ⟨T50, X50, e50, st50⟩ := initO X0 hx hZ hown (hw _ (List.mem_of_getElem? (i := 31) rfl)) (hw _ (List.mem_of_getElem? (i := 32) rfl)) (hw _ (List.mem_of_getElem? (i := 33) rfl)) e0 (g := (mkF m 1 #[.val (.ref a), .val (.ref w_NONE), .val (.ref b)] [(.ref a)])) rfl (by rw [hml]; rfl) rfl (hb hby own_d1_1) (by decide) (W := 0) (by show 2 * 0 + _ ≤ _; exact Nat.le_of_eq rfl) (by decide)
  refine own_go (B := T50.setTop (mkF m 4 #[.val (.ref a), .val (.ref w_NONE), .val (.ref b)] [])) (fun t k => st50 _ k) ?_
  refine own_go (B := T50.setTop (mkF m 5 #[.val (.ref a), .val (.ref w_NONE), .val (.ref b)] [(.ref a)])) (fun t k => XS.aloadN X50.here hx rfl (hb hby own_d1_4) rfl rfl k) ?_
  refine own_go (B := T50.setTop (mkF m 6 #[.val (.ref a), .val (.ref w_NONE), .val (.ref b)] [(.ref w_NONE), (.ref a)])) (fun t k => XS.aloadN X50.here hx rfl (hb hby own_d1_5) rfl rfl k) ?_
  obtain ⟨T51, h51, X51, e51, W51, st51⟩ := putF X50 hx hZ hown (host := "") (Or.inl (hw _ (List.mem_of_getElem? (i := 34) rfl))) Via.refl e50 F3 E1 (Or.inr ⟨(hw _ (List.mem_of_getElem? (i := 35) rfl)), rfl, hnm⟩) (hw _ (List.mem_of_getElem? (i := 13) rfl)) (ty := (.object "com/example/invariant/invariant/Configuration")) (by decide) rfl rfl (g := (mkF m 6 #[.val (.ref a), .val (.ref w_NONE), .val (.ref b)] [(.ref w_NONE), (.ref a)])) rfl rfl (hb hby own_d1_6)
  have Fw51 := F3.same W51
  have N51 := Fr.snoc X51 N0 G2
  have O51 := O0.wr W51 G2
  have K51 := K0.wr W51 (Or.inl (by simp))
  refine own_go (B := T51.setTop (mkF m 9 #[.val (.ref a), .val (.ref w_NONE), .val (.ref b)] [])) (fun t k => st51 _ k) ?_
  refine own_go (B := T51.setTop (mkF m 10 #[.val (.ref a), .val (.ref w_NONE), .val (.ref b)] [(.ref a)])) (fun t k => XS.aloadN X51.here hx rfl (hb hby own_d1_9) rfl rfl k) ?_
  refine own_go (B := T51.setTop (mkF m 11 #[.val (.ref a), .val (.ref w_NONE), .val (.ref b)] [(.ref b), (.ref a)])) (fun t k => XS.aloadN X51.here hx rfl (hb hby own_d1_10) rfl rfl k) ?_
  have f52 := (F4.other W51 (Or.inr (slot_ne (Or.inr (hw _ (List.mem_of_getElem? (i := 37) rfl))) (Or.inr (hw _ (List.mem_of_getElem? (i := 35) rfl))) (by decide) (t := (.array (.object "com/example/invariant/invariant/Value"))) (t' := (.object "com/example/invariant/invariant/Configuration")) (by decide) (by decide))))
  have f53 := (E1.wr W51)
  obtain ⟨T54, h54, X54, e54, W54, st54⟩ := putF X51 hx hZ hown (host := "") (Or.inl (hw _ (List.mem_of_getElem? (i := 36) rfl))) Via.refl e51 f52 f53 (Or.inr ⟨(hw _ (List.mem_of_getElem? (i := 37) rfl)), rfl, hnm⟩) (hw _ (List.mem_of_getElem? (i := 13) rfl)) (ty := (.array (.object "com/example/invariant/invariant/Value"))) (by decide) rfl rfl (g := (mkF m 11 #[.val (.ref a), .val (.ref w_NONE), .val (.ref b)] [(.ref b), (.ref a)])) rfl rfl (hb hby own_d1_11)
  have Fw54 := f52.same W54
  have N54 := Fr.snoc X54 N51 G2
  have O54 := O51.wr W54 G2
  have K54 := K51.wr W54 (Or.inl (by simp))
  refine own_go (B := T54.setTop (mkF m 14 #[.val (.ref a), .val (.ref w_NONE), .val (.ref b)] [])) (fun t k => st54 _ k) ?_
  refine own_go (B := T54.setTop (mkF m 15 #[.val (.ref a), .val (.ref w_NONE), .val (.ref b)] [(.ref a)])) (fun t k => XS.aloadN X54.here hx rfl (hb hby own_d1_14) rfl rfl k) ?_
  refine own_go (B := T54.setTop (mkF m 17 #[.val (.ref a), .val (.ref w_NONE), .val (.ref b)] [(.int (31 : Int32)), (.ref a)])) (fun t k => XS.bipush X54.here hx rfl (hb hby own_d1_15) k) ?_
  refine own_go (B := T54.setTop (mkF m 18 #[.val (.ref a), .val (.ref w_NONE), .val (.ref b)] [(.ref w_NONE), (.int (31 : Int32)), (.ref a)])) (fun t k => XS.aloadN X54.here hx rfl (hb hby own_d1_17) rfl rfl k) ?_
  obtain ⟨cq55, kq55, q55a, q55b, q55c⟩ := isOf hZ e54 (HS.2.1.ext O54.2)
  obtain ⟨_, _, ⟨T55, L55, k55, n55⟩, -, X55, ⟨Lc55, hQ55, l55, y55, z55⟩, st55⟩ := X54.virtualBack hx (y := (⟨"com/example/invariant/invariant/Configuration", "hashCode", "()I"⟩ : MethodName)) (z := (⟨"com/example/invariant/invariant/Configuration", "hashCode", "()I"⟩ : MethodName)) hown (mvT hZ (hw _ (List.mem_of_getElem? (i := 38) rfl))) (mvT hZ (hw _ (List.mem_of_getElem? (i := 39) rfl))) (notFace_of_selects (args := #[]) (mvT hZ (hw _ (List.mem_of_getElem? (i := 41) rfl)))) (mvT hZ (hw _ (List.mem_of_getElem? (i := 41) rfl))) (mvT hZ (hw _ (List.mem_of_getElem? (i := 40) rfl))) (by decide) (backOf (W := 2) (own_rm_chash l Z a0 hw [] w_NONE (1 : Int32) h54 n0 O54 HS.2.2.1) hZ (hw _ (List.mem_of_getElem? (i := 42) rfl)) (hw _ (List.mem_of_getElem? (i := 1) rfl)) (by decide) (by decide)) q55a q55c (g := (mkF m 18 #[.val (.ref a), .val (.ref w_NONE), .val (.ref b)] [(.ref w_NONE), (.int (31 : Int32)), (.ref a)])) rfl (by rw [hml]; rfl) (Steps.refl _) (argsL := []) (rest := [(.int (31 : Int32)), (.ref a)]) (lenOf own_pd_0 rfl) rfl (by show 2 * 0 + _ ≤ _; exact Nat.le_of_eq rfl) (hb hby own_d1_18) (fun _ _ => ⟨rfl, e54, (by decide : 0 + 0 ≤ _), (by decide : 0 + 0 ≤ _)⟩)
  dsimp only [Pt.U, Pt.locs, Pt.cells, Pt.slots] at X55 l55 y55 z55 st55 hQ55
  subst l55 y55 z55
  obtain ⟨rfl, N55q, eh55⟩ := hQ55
  have N55 := Fr.app N54 N55q
  refine own_go (B := T55.setTop (mkF m 21 #[.val (.ref a), .val (.ref w_NONE), .val (.ref b)] [(.int (1 : Int32)), (.int (31 : Int32)), (.ref a)])) (fun t k => st55.trans k) ?_
  refine own_go (B := T55.setTop (mkF m 22 #[.val (.ref a), .val (.ref w_NONE), .val (.ref b)] [(.int (31 : Int32)), (.ref a)])) (fun t k => XS.imul X55.here hx rfl (hb hby own_d1_21) rfl k) ?_
  refine own_go (B := T55.setTop (mkF m 23 #[.val (.ref a), .val (.ref w_NONE), .val (.ref b)] [(.ref b), (.int (31 : Int32)), (.ref a)])) (fun t k => XS.aloadN X55.here hx rfl (hb hby own_d1_22) rfl rfl k) ?_
  have f56 := ((E7.wr W51).wr W54)
  have f57 := (f53.wr W54)
  have f58 := ((A6.other W51 (ne_exa f56 f57 (by decide))).other W54 (ne_exa f56 f57 (by decide)))
  obtain ⟨_, _, ⟨T59, L59, k59, n59⟩, -, X59, ⟨Lc59, hQ59, l59, y59, z59⟩, st59⟩ := Jvm.LawKit.callS X55 hx (y := (⟨"java/util/Arrays", "hashCode", "([Ljava/lang/Object;)I"⟩ : MethodName)) hown (mvT hZ (hw _ (List.mem_of_getElem? (i := 45) rfl))) (mvT hZ (hw _ (List.mem_of_getElem? (i := 46) rfl))) (mvT hZ (hw _ (List.mem_of_getElem? (i := 47) rfl))) (mvT hZ (hw _ (List.mem_of_getElem? (i := 48) rfl))) (by decide) (backOf (W := 2) (own_rm_hash1 l Z a0 hw [] b kb h54 n0 O54 f58) hZ (hw _ (List.mem_of_getElem? (i := 48) rfl)) (hw _ (List.mem_of_getElem? (i := 47) rfl)) (by decide) (by decide)) (g := (mkF m 23 #[.val (.ref a), .val (.ref w_NONE), .val (.ref b)] [(.ref b), (.int (31 : Int32)), (.ref a)])) rfl (by rw [hml]; rfl) (argsL := [(.ref b)]) (rest := [(.int (31 : Int32)), (.ref a)]) (lenOf own_pd_1 rfl) rfl (by show 2 * 0 + _ ≤ _; exact Nat.le_of_eq rfl) (hb hby own_d1_23) (fun _ _ => ⟨rfl, eh55, (by decide : 0 + 0 ≤ _), (by decide : 0 + 0 ≤ _)⟩)
  dsimp only [Pt.U, Pt.locs, Pt.cells, Pt.slots] at X59 l59 y59 z59 st59 hQ59
  subst l59 y59 z59
  obtain ⟨rfl, N59q, eh59⟩ := hQ59
  have N59 := Fr.app N55 N59q
  refine own_go (B := T59.setTop (mkF m 26 #[.val (.ref a), .val (.ref w_NONE), .val (.ref b)] [(.int (31 : Int32)), (.int (31 : Int32)), (.ref a)])) (fun t k => st59 _ k) ?_
  refine own_go (B := T59.setTop (mkF m 27 #[.val (.ref a), .val (.ref w_NONE), .val (.ref b)] [(.int (62 : Int32)), (.ref a)])) (fun t k => XS.iadd X59.here hx rfl (hb hby own_d1_26) rfl k) ?_
  have f60 := ((F5.other W51 (Or.inr (slot_ne (Or.inr (hw _ (List.mem_of_getElem? (i := 50) rfl))) (Or.inr (hw _ (List.mem_of_getElem? (i := 35) rfl))) (by decide) (t := .int) (t' := (.object "com/example/invariant/invariant/Configuration")) (by decide) (by decide)))).other W54 (Or.inr (slot_ne (Or.inr (hw _ (List.mem_of_getElem? (i := 50) rfl))) (Or.inr (hw _ (List.mem_of_getElem? (i := 37) rfl))) (by decide) (t := .int) (t' := (.array (.object "com/example/invariant/invariant/Value"))) (by decide) (by decide))))
  obtain ⟨T61, h61, X61, e61, W61, st61⟩ := putF X59 hx hZ hown (host := "") (Or.inl (hw _ (List.mem_of_getElem? (i := 49) rfl))) Via.refl eh59 f60 f57 (Or.inr ⟨(hw _ (List.mem_of_getElem? (i := 50) rfl)), rfl, hnm⟩) (hw _ (List.mem_of_getElem? (i := 13) rfl)) (ty := .int) (by decide) rfl rfl (g := (mkF m 27 #[.val (.ref a), .val (.ref w_NONE), .val (.ref b)] [(.int (62 : Int32)), (.ref a)])) rfl rfl (hb hby own_d1_27)
  have Fw61 := f60.same W61
  have N61 := Fr.snoc X61 N59 G2
  have O61 := O54.wr W61 G2
  have K61 := K54.wr W61 (Or.inl (by simp))
  refine own_go (B := T61.setTop (mkF m 30 #[.val (.ref a), .val (.ref w_NONE), .val (.ref b)] [])) (fun t k => st61 _ k) ?_
  obtain ⟨fs, hr, hrun, hended, hW, hsame⟩ := X61.leave (v := none) (fun _ => rfl)
  have f63 := (f57.wr W61)
  refine ⟨_, _, X61.returnOut hx Bd.returns (hb hby own_d1_30) hr, hK _ _ ⟨hrun, hended, _, _, rfl, ?_, ⟨_, rfl⟩, hW, hsame.mono (by decide) (by decide)⟩⟩
  show own_Q_sini1 Z a b kb w_NONE w_DEF w_EMP w_EL w_ELA mir kd ke h0 n0 _ T61.heap _
  rw [e61]
  exact ⟨rfl, N61, K61, f63⟩
theorem own_ef_of1 (m : MethodId) (x0 : Addr) (x1 : Addr)  : entryFrame m #[(.ref x0), (.ref x1)] 2 = mkF m 0 #[.val (.ref x0), .val (.ref x1)] [] := by first | (simp [entryFrame, mkF, argsToLocals, Value.category]; done) | rfl
def own_Q_of1 (Z : State) (b : Addr) (kb : ClassId) (w_NONE w_DEF w_EMP w_EL w_ELA mir : Addr) (kd ke : ClassId) (h0 : Heap) (n0 : Nat) (v : Option Value) (h : Heap) (L : List Loc) : Prop := ∃ r : Addr, v = some (.ref r) ∧ Fr n0 L ∧ Ext h0 h ∧ h0.size ≤ r ∧ Exa Z h r "com/example/invariant/invariant/State"
set_option maxRecDepth 65536 in
set_option maxHeartbeats 40000000 in
theorem own_rm_of1 (l : Launch) (Z : State) (a0 : Array Value) (hw : ∀ d ∈ tables_1, d.before a0 Z = true) (ws : List Jvm.Cond) (b : Addr) (kb : ClassId) (w_NONE w_DEF w_EMP w_EL w_ELA mir : Addr) (kd ke : ClassId) (h0 : Heap) (n0 : Nat) (O0 : Old Z n0 h0) (HS : own_St Z w_NONE w_DEF w_EMP w_EL w_ELA mir kd ke) (A1 : Arv Z h0 b kb (.object "com/example/invariant/invariant/Value") (1 : Int32) [.null] .null) (E2 : Exa Z h0 b "[Lcom/example/invariant/invariant/Value;") :
    MetFree l (⟨"com/example/invariant/invariant/State", "of", "(Lcom/example/invariant/invariant/Configuration;[Lcom/example/invariant/invariant/Value;)Lcom/example/invariant/invariant/State;"⟩ : MethodName) (head1 (Jvm.Cond.code (⟨"com/example/invariant/invariant/State", "of", "(Lcom/example/invariant/invariant/Configuration;[Lcom/example/invariant/invariant/Value;)Lcom/example/invariant/invariant/State;"⟩ : MethodName) prog_96_method_3_code 2 (some (.object "com/example/invariant/invariant/State")) :: ws) ({ frames := 2, cells := 3, slots := 59, locals := 34 } : Room)) (fun ar9 U => ar9 = #[(.ref w_NONE), (.ref b)] ∧ Z.Warmed39 U.vm ∧ U.heap = h0) (fun _ _ _ _ _ => True) (fun _ U o U' => ∃ v L, o = .returned v ∧ own_Q_of1 Z b kb w_NONE w_DEF w_EMP w_EL w_ELA mir kd ke h0 n0 v U'.heap L ∧ ReturnedEndW U o U' L ({ frames := 2, cells := 3, slots := 59, locals := 34 } : Room).cells ({ frames := 2, cells := 3, slots := 59, locals := 34 } : Room).slots) := by
  refine MetFree.of_bodySF (plainFor_of_name own_pn_3) hisR ?_
  intro p e s m args below meth c s₁ Bd hml0 hP hK0
  obtain ⟨rfl, hZ, hh⟩ := hP
  have hx := Bd.exec
  have hby := Bd.bytes
  have hml : c.maxLocals = 2 := hml0
  have hown : s.vm.findClass "com/example/invariant/invariant/State" = some m.cls := findClass_of_methodNamed Bd.named
  have hnm := (name_of_methodNamed Bd.named Bd.method).1
  have X0 : Stand p l e ({ frames := 2, cells := 3, slots := 59, locals := 34 } : Room) (s.setVm s.vm) m #[(.ref w_NONE), (.ref b)] below meth c s₁ [] 0 0 := Stand.of_body Bd
  have e0 : s₁.heap = h0 := by rw [← hh, Bd.state]; rfl
  have N0 := Fr.nil n0
  have K0 := Keep.refl h0 []
  have hS0 : s.Since s.vm h0.size := (State.WarmedH.refl s).since _
  have hk0 : h0.size ≤ h0.size := Nat.le_refl _
  refine own_open fun K hK => ?_
  refine own_go (B := s₁.setTop (mkF m 0 #[.val (.ref w_NONE), .val (.ref b)] [])) (fun t k => castTop (own_ef_of1 m w_NONE b) k) ?_
  obtain ⟨T64, h64, X64, e64, E64, A64, D64, -, st64⟩ := newO X0 hx hZ hown (hw _ (List.mem_of_getElem? (i := 12) rfl)) (hw _ (List.mem_of_getElem? (i := 13) rfl)) (hw _ (List.mem_of_getElem? (i := 5) rfl)) e0 (g := (mkF m 0 #[.val (.ref w_NONE), .val (.ref b)] [])) rfl (hb hby own_d3_0) (by decide) (by decide)
  obtain ⟨b64, g64⟩ : ∃ z, z = h0.size := ⟨_, rfl⟩
  rw [← g64] at A64 D64 st64
  have lt_b_64 := A1.lt
  have g_b64 : n0 ≤ b64 := Nat.le_trans (own_n0 O0) (Nat.le_of_eq g64.symm)
  have O64 := O0.ext E64
  have sz_b64 : h0.size ≤ b64 := Nat.le_trans K0.1 (Nat.le_of_eq g64.symm)
  have hk65 := Nat.le_trans hk0 E64.1
  have K64 := K0.ext E64
  have F64_35 : Fld Z h64 b64 "com/example/invariant/invariant/State" "configuration" "Lcom/example/invariant/invariant/Configuration;" .null := D64 (Or.inr (hw _ (List.mem_of_getElem? (i := 35) rfl))) (ty := (.object "com/example/invariant/invariant/Configuration")) (by decide)
  have F64_37 : Fld Z h64 b64 "com/example/invariant/invariant/State" "values" "[Lcom/example/invariant/invariant/Value;" .null := D64 (Or.inr (hw _ (List.mem_of_getElem? (i := 37) rfl))) (ty := (.array (.object "com/example/invariant/invariant/Value"))) (by decide)
  have F64_50 : Fld Z h64 b64 "com/example/invariant/invariant/State" "hash" "I" (.int (0 : Int32)) := D64 (Or.inr (hw _ (List.mem_of_getElem? (i := 50) rfl))) (ty := .int) (by decide)
  refine own_go (B := T64.setTop (mkF m 3 #[.val (.ref w_NONE), .val (.ref b)] [(.ref b64)])) (fun t k => st64 _ k) ?_
  refine own_go (B := T64.setTop (mkF m 4 #[.val (.ref w_NONE), .val (.ref b)] [(.ref b64), (.ref b64)])) (fun t k => XS.dup X64.here hx rfl (hb hby own_d3_3) rfl rfl k) ?_
  refine own_go (B := T64.setTop (mkF m 5 #[.val (.ref w_NONE), .val (.ref b)] [(.ref w_NONE), (.ref b64), (.ref b64)])) (fun t k => XS.aloadN X64.here hx rfl (hb hby own_d3_4) rfl rfl k) ?_
  obtain ⟨a66, T66, h66, k66, X66, e66, E66, hS66, hkk66, hZ, hown, st66⟩ := ldcS X64 hx hZ hown (hw _ (List.mem_of_getElem? (i := 14) rfl)) (fun d hd => hw d (own_strAtoms d hd)) e64 hS0 hk65 (g := (mkF m 5 #[.val (.ref w_NONE), .val (.ref b)] [(.ref w_NONE), (.ref b64), (.ref b64)])) rfl (hb hby own_d3_5) (n := 52) (by decide) (by decide) (by decide) (by decide)
  have O66 := O64.ext E66
  have hk67 := Nat.le_trans hk65 E66.1
  have K66 := K64.ext E66
  refine own_go (B := T66.setTop (mkF m 7 #[.val (.ref w_NONE), .val (.ref b)] [(.ref a66), (.ref w_NONE), (.ref b64), (.ref b64)])) (fun t k => st66 _ k) ?_
  obtain ⟨_, _, ⟨T68, L68, k68, n68⟩, -, X68, ⟨Lc68, hQ68, l68, y68, z68⟩, st68⟩ := Jvm.LawKit.callS X66 hx (y := (⟨"java/util/Objects", "requireNonNull", "(Ljava/lang/Object;Ljava/lang/String;)Ljava/lang/Object;"⟩ : MethodName)) hown (mvT hZ (hw _ (List.mem_of_getElem? (i := 22) rfl))) (mvT hZ (hw _ (List.mem_of_getElem? (i := 23) rfl))) (mvT hZ (hw _ (List.mem_of_getElem? (i := 24) rfl))) (mvT hZ (hw _ (List.mem_of_getElem? (i := 25) rfl))) (by decide) (backOf (W := 2) (own_rm_rnn2 l Z a0 hw [] w_NONE a66 h66 n0 O66 ) hZ (hw _ (List.mem_of_getElem? (i := 25) rfl)) (hw _ (List.mem_of_getElem? (i := 24) rfl)) (by decide) (by decide)) (g := (mkF m 7 #[.val (.ref w_NONE), .val (.ref b)] [(.ref a66), (.ref w_NONE), (.ref b64), (.ref b64)])) rfl (by rw [hml]; rfl) (argsL := [(.ref w_NONE), (.ref a66)]) (rest := [(.ref b64), (.ref b64)]) (lenOf own_pd_2 rfl) rfl (by show 2 * 0 + _ ≤ _; exact Nat.le_of_eq rfl) (hb hby own_d3_7) (fun _ _ => ⟨rfl, e66, (by decide : 3 + 0 ≤ _), (by decide : 59 + 0 ≤ _)⟩)
  dsimp only [Pt.U, Pt.locs, Pt.cells, Pt.slots] at X68 l68 y68 z68 st68 hQ68
  subst l68 y68 z68
  obtain ⟨rfl, N68q, eh68⟩ := hQ68
  have N68 := Fr.app N0 N68q
  refine own_go (B := T68.setTop (mkF m 10 #[.val (.ref w_NONE), .val (.ref b)] [(.ref w_NONE), (.ref b64), (.ref b64)])) (fun t k => st68 _ k) ?_
  obtain ⟨T69, X69, e69, st69⟩ := castY X68 hx hZ hown (hw _ (List.mem_of_getElem? (i := 26) rfl)) eh68 (Ins.self (HS.2.1.ext O66.2)) (g := (mkF m 10 #[.val (.ref w_NONE), .val (.ref b)] [(.ref w_NONE), (.ref b64), (.ref b64)])) rfl rfl (hb hby own_d3_10)
  refine own_go (B := T69.setTop (mkF m 13 #[.val (.ref w_NONE), .val (.ref b)] [(.ref w_NONE), (.ref b64), (.ref b64)])) (fun t k => st69 _ k) ?_
  refine own_go (B := T69.setTop (mkF m 14 #[.val (.ref w_NONE), .val (.ref b)] [(.ref b), (.ref w_NONE), (.ref b64), (.ref b64)])) (fun t k => XS.aloadN X69.here hx rfl (hb hby own_d3_13) rfl rfl k) ?_
  have f70 := (A64.ext E66)
  have f71 := (F64_35.ext E66)
  have f72 := (F64_37.ext E66)
  have f73 := (F64_50.ext E66)
  have f74 := ((A1.ext E64).ext E66)
  have f75 := ((E2.ext E64).ext E66)
  have lt_b_76 := f74.lt
  have lt_b64_76 := f70.lt
  obtain ⟨_, _, ⟨T77, L77, k77, n77⟩, -, X77, ⟨Lc77, hQ77, l77, y77, z77⟩, st77⟩ := X69.specialBack hx (y := (⟨"com/example/invariant/invariant/State", "<init>", "(Lcom/example/invariant/invariant/Configuration;[Lcom/example/invariant/invariant/Value;)V"⟩ : MethodName)) rfl hown (mvT hZ (hw _ (List.mem_of_getElem? (i := 28) rfl))) (mvT hZ (hw _ (List.mem_of_getElem? (i := 29) rfl))) (mvT hZ (hw _ (List.mem_of_getElem? (i := 30) rfl))) (by decide) (backOf (W := 1) (own_rm_sini1 l Z a0 hw [] b64 b kb w_NONE w_DEF w_EMP w_EL w_ELA mir kd ke h66 n0 O66 HS f70 g_b64 f71 f72 f73 f74 f75) hZ (hw _ (List.mem_of_getElem? (i := 30) rfl)) (hw _ (List.mem_of_getElem? (i := 5) rfl)) (by decide) (by decide)) (g := (mkF m 14 #[.val (.ref w_NONE), .val (.ref b)] [(.ref b), (.ref w_NONE), (.ref b64), (.ref b64)])) rfl (by rw [hml]; rfl) (Steps.refl _) (a := b64) (argsL := [(.ref w_NONE), (.ref b)]) (rest := [(.ref b64)]) (lenOf own_pd_3 rfl) rfl (by show 2 * 0 + _ ≤ _; exact Nat.le_of_eq rfl) (hb hby own_d3_14) (fun _ _ => ⟨rfl, e69, (by decide : 3 + 0 ≤ _), (by decide : 59 + 0 ≤ _)⟩)
  dsimp only [Pt.U, Pt.locs, Pt.cells, Pt.slots] at X77 l77 y77 z77 st77 hQ77
  subst l77 y77 z77
  obtain ⟨rfl, N77q, Kc77, Q77_0⟩ := hQ77
  have O77 := O66.keep Kc77 (allS g_b64 all0)
  have hk78 := Nat.le_trans hkk66 Kc77.1
  have K77 := K66.trans Kc77 (allS (Or.inr sz_b64) all0)
  have N77 := Fr.app N68 N77q
  refine own_go (B := T77.setTop (mkF m 17 #[.val (.ref w_NONE), .val (.ref b)] [(.ref b64)])) (fun t k => st77.trans k) ?_
  obtain ⟨fs, hr, hrun, hended, hREW⟩ := X77.leaveW hS66 (by rw [(rfl : T77.heap = T77.heap)]; exact hk78) (v := some (.ref b64)) (fun h => by rw [Bd.returns] at h; cases h)
  have Ex80 : Ext h0 T77.heap := ⟨K77.1, fun x c q => K77.2.1 x c q nin0⟩
  refine ⟨_, _, own_retA X77 hx Bd.returns rfl rfl (hb hby own_d3_17) hr, hK _ _ ⟨hrun, hended, _, _, rfl, ?_, ⟨_, rfl⟩, hREW.2.1, hREW.2.2.1, hREW.2.2.2.mono (by decide) (by decide)⟩⟩
  show own_Q_of1 Z b kb w_NONE w_DEF w_EMP w_EL w_ELA mir kd ke h0 n0 _ T77.heap _
  exact ⟨b64, rfl, N77, Ex80, sz_b64, Q77_0⟩
theorem own_ef_hash2 (m : MethodId) (x0 : Addr)  : entryFrame m #[(.ref x0)] 6 = mkF m 0 #[.val (.ref x0), .unset, .unset, .unset, .unset, .unset] [] := by first | (simp [entryFrame, mkF, argsToLocals, Value.category]; done) | rfl
def own_Q_hash2 (Z : State) (b : Addr) (kb : ClassId) (h0 : Heap) (n0 : Nat) (v : Option Value) (h : Heap) (L : List Loc) : Prop := v = some (.int (961 : Int32)) ∧ Fr n0 L ∧ h = h0
set_option maxRecDepth 65536 in
set_option maxHeartbeats 40000000 in
theorem own_rm_hash2 (l : Launch) (Z : State) (a0 : Array Value) (hw : ∀ d ∈ tables_1, d.before a0 Z = true) (ws : List Jvm.Cond) (b : Addr) (kb : ClassId) (h0 : Heap) (n0 : Nat) (O0 : Old Z n0 h0) (A0 : Arv Z h0 b kb (.object "com/example/invariant/invariant/Value") (2 : Int32) [.null, .null] .null) :
    MetFree l (⟨"java/util/Arrays", "hashCode", "([Ljava/lang/Object;)I"⟩ : MethodName) (head1 (Jvm.Cond.code (⟨"java/util/Arrays", "hashCode", "([Ljava/lang/Object;)I"⟩ : MethodName) jdk_65_method_157_code 6 (some .int) :: ws) ({ frames := 0, cells := 0, slots := 0, locals := 0 } : Room)) (fun ar9 U => ar9 = #[(.ref b)] ∧ Z.Warmed39 U.vm ∧ U.heap = h0) (fun _ _ _ _ _ => True) (fun _ U o U' => ∃ v L, o = .returned v ∧ own_Q_hash2 Z b kb h0 n0 v U'.heap L ∧ FrameEnd U o U' L ({ frames := 0, cells := 0, slots := 0, locals := 0 } : Room).cells ({ frames := 0, cells := 0, slots := 0, locals := 0 } : Room).slots) := by
  refine MetFree.of_bodySF (plainFor_of_name own_pn_2) hisR ?_
  intro p e s m args below meth c s₁ Bd hml0 hP hK0
  obtain ⟨rfl, hZ, hh⟩ := hP
  have hx := Bd.exec
  have hby := Bd.bytes
  have hml : c.maxLocals = 6 := hml0
  have hown : s.vm.findClass "java/util/Arrays" = some m.cls := findClass_of_methodNamed Bd.named
  have hnm := (name_of_methodNamed Bd.named Bd.method).1
  have X0 : Stand p l e ({ frames := 0, cells := 0, slots := 0, locals := 0 } : Room) s m #[(.ref b)] below meth c s₁ [] 0 0 := Stand.of_body Bd
  have e0 : s₁.heap = h0 := by rw [← hh, Bd.state]; rfl
  have N0 := Fr.nil n0
  refine own_open fun K hK => ?_
  refine own_go (B := s₁.setTop (mkF m 0 #[.val (.ref b), .unset, .unset, .unset, .unset, .unset] [])) (fun t k => castTop (own_ef_hash2 m b) k) ?_
  refine own_go (B := s₁.setTop (mkF m 1 #[.val (.ref b), .unset, .unset, .unset, .unset, .unset] [(.ref b)])) (fun t k => XS.aloadN X0.here hx rfl (hb hby own_d26_0) rfl rfl k) ?_
  refine own_go (B := s₁.setTop (mkF m 6 #[.val (.ref b), .unset, .unset, .unset, .unset, .unset] [])) (fun t k => XS.ifnonnullYes X0.here hx rfl (pc0 := 1) (pc' := 6) rfl (hb hby own_d26_1) rfl (by decide) (by decide) k) ?_
  refine own_go (B := s₁.setTop (mkF m 7 #[.val (.ref b), .unset, .unset, .unset, .unset, .unset] [(.int (1 : Int32))])) (fun t k => XS.iconst X0.here hx rfl (hb hby own_d26_6) k) ?_
  refine own_go (B := s₁.setTop (mkF m 8 #[.val (.ref b), .val (.int (1 : Int32)), .unset, .unset, .unset, .unset] [])) (fun t k => XS.istoreN X0.here hx rfl (hb hby own_d26_7) rfl (l' := #[.val (.ref b), .val (.int (1 : Int32)), .unset, .unset, .unset, .unset]) rfl k) ?_
  refine own_go (B := s₁.setTop (mkF m 9 #[.val (.ref b), .val (.int (1 : Int32)), .unset, .unset, .unset, .unset] [(.ref b)])) (fun t k => XS.aloadN X0.here hx rfl (hb hby own_d26_8) rfl rfl k) ?_
  refine own_go (B := s₁.setTop (mkF m 10 #[.val (.ref b), .val (.int (1 : Int32)), .val (.ref b), .unset, .unset, .unset] [])) (fun t k => XS.astoreN X0.here hx rfl (hb hby own_d26_9) rfl rfl (l' := #[.val (.ref b), .val (.int (1 : Int32)), .val (.ref b), .unset, .unset, .unset]) rfl k) ?_
  refine own_go (B := s₁.setTop (mkF m 11 #[.val (.ref b), .val (.int (1 : Int32)), .val (.ref b), .unset, .unset, .unset] [(.ref b)])) (fun t k => XS.aloadN X0.here hx rfl (hb hby own_d26_10) rfl rfl k) ?_
  obtain ⟨cl81, Ar81, qr81, Sr81, Nr81, Hr81, Gr81⟩ := id A0
  refine own_go (B := s₁.setTop (mkF m 12 #[.val (.ref b), .val (.int (1 : Int32)), .val (.ref b), .unset, .unset, .unset] [(.int (2 : Int32))])) (fun t k => X0.arraylength hx (by rw [e0]; exact Ar81.1) (State.isArrayOf_alike hZ.alike Ar81.2.1) (g := (mkF m 11 #[.val (.ref b), .val (.int (1 : Int32)), .val (.ref b), .unset, .unset, .unset] [(.ref b)])) rfl rfl (hb hby own_d26_11) _ (by rw [len_of Sr81 Nr81]; exact k)) ?_
  refine own_go (B := s₁.setTop (mkF m 13 #[.val (.ref b), .val (.int (1 : Int32)), .val (.ref b), .val (.int (2 : Int32)), .unset, .unset] [])) (fun t k => XS.istoreN X0.here hx rfl (hb hby own_d26_12) rfl (l' := #[.val (.ref b), .val (.int (1 : Int32)), .val (.ref b), .val (.int (2 : Int32)), .unset, .unset]) rfl k) ?_
  refine own_go (B := s₁.setTop (mkF m 14 #[.val (.ref b), .val (.int (1 : Int32)), .val (.ref b), .val (.int (2 : Int32)), .unset, .unset] [(.int (0 : Int32))])) (fun t k => XS.iconst X0.here hx rfl (hb hby own_d26_13) k) ?_
  refine own_go (B := s₁.setTop (mkF m 16 #[.val (.ref b), .val (.int (1 : Int32)), .val (.ref b), .val (.int (2 : Int32)), .val (.int (0 : Int32)), .unset] [])) (fun t k => XS.istore X0.here hx rfl (hb hby own_d26_14) rfl (l' := #[.val (.ref b), .val (.int (1 : Int32)), .val (.ref b), .val (.int (2 : Int32)), .val (.int (0 : Int32)), .unset]) rfl k) ?_
  refine own_go (B := s₁.setTop (mkF m 18 #[.val (.ref b), .val (.int (1 : Int32)), .val (.ref b), .val (.int (2 : Int32)), .val (.int (0 : Int32)), .unset] [(.int (0 : Int32))])) (fun t k => XS.iload X0.here hx rfl (hb hby own_d26_16) rfl k) ?_
  refine own_go (B := s₁.setTop (mkF m 19 #[.val (.ref b), .val (.int (1 : Int32)), .val (.ref b), .val (.int (2 : Int32)), .val (.int (0 : Int32)), .unset] [(.int (2 : Int32)), (.int (0 : Int32))])) (fun t k => XS.iloadN X0.here hx rfl (hb hby own_d26_18) rfl k) ?_
  refine own_go (B := s₁.setTop (mkF m 22 #[.val (.ref b), .val (.int (1 : Int32)), .val (.ref b), .val (.int (2 : Int32)), .val (.int (0 : Int32)), .unset] [])) (fun t k => XS.icmpNo X0.here hx rfl (hb hby own_d26_19) rfl (tlt (by decide : (0 : Int32) < (2 : Int32))).2.1 k) ?_
  refine own_go (B := s₁.setTop (mkF m 23 #[.val (.ref b), .val (.int (1 : Int32)), .val (.ref b), .val (.int (2 : Int32)), .val (.int (0 : Int32)), .unset] [(.ref b)])) (fun t k => XS.aloadN X0.here hx rfl (hb hby own_d26_22) rfl rfl k) ?_
  refine own_go (B := s₁.setTop (mkF m 25 #[.val (.ref b), .val (.int (1 : Int32)), .val (.ref b), .val (.int (2 : Int32)), .val (.int (0 : Int32)), .unset] [(.int (0 : Int32)), (.ref b)])) (fun t k => XS.iload X0.here hx rfl (hb hby own_d26_23) rfl k) ?_
  obtain ⟨cl83, Ar83, qr83, Sr83, Nr83, Hr83, Gr83⟩ := id A0
  have hin83 : ¬ ((0 : Int32) < 0 ∨ cl83.slots.size ≤ ((0 : Int32)).toNatClampNeg) := inb_of Sr83 ⟨by decide, by decide⟩
  have hat83 : cl83.slots[((0 : Int32)).toNatClampNeg]? = some .null := Has.at Hr83 hin83 rfl
  refine own_go (B := s₁.setTop (mkF m 26 #[.val (.ref b), .val (.int (1 : Int32)), .val (.ref b), .val (.int (2 : Int32)), .val (.int (0 : Int32)), .unset] [.null])) (fun t k => X0.aaload hx (j := (0 : Int32)) (v := .null) (by rw [e0]; exact Ar83.1) (State.isArrayOf_alike hZ.alike Ar83.2.1) rfl Ar83.2.2 hin83 hat83 (g := (mkF m 25 #[.val (.ref b), .val (.int (1 : Int32)), .val (.ref b), .val (.int (2 : Int32)), .val (.int (0 : Int32)), .unset] [(.int (0 : Int32)), (.ref b)])) rfl rfl (hb hby own_d26_25) _ k) ?_
  refine own_go (B := s₁.setTop (mkF m 28 #[.val (.ref b), .val (.int (1 : Int32)), .val (.ref b), .val (.int (2 : Int32)), .val (.int (0 : Int32)), .val .null] [])) (fun t k => XS.astore X0.here hx rfl (hb hby own_d26_26) rfl rfl (l' := #[.val (.ref b), .val (.int (1 : Int32)), .val (.ref b), .val (.int (2 : Int32)), .val (.int (0 : Int32)), .val .null]) rfl k) ?_
  refine own_go (B := s₁.setTop (mkF m 30 #[.val (.ref b), .val (.int (1 : Int32)), .val (.ref b), .val (.int (2 : Int32)), .val (.int (0 : Int32)), .val .null] [(.int (31 : Int32))])) (fun t k => XS.bipush X0.here hx rfl (hb hby own_d26_28) k) ?_
  refine own_go (B := s₁.setTop (mkF m 31 #[.val (.ref b), .val (.int (1 : Int32)), .val (.ref b), .val (.int (2 : Int32)), .val (.int (0 : Int32)), .val .null] [(.int (1 : Int32)), (.int (31 : Int32))])) (fun t k => XS.iloadN X0.here hx rfl (hb hby own_d26_30) rfl k) ?_
  refine own_go (B := s₁.setTop (mkF m 32 #[.val (.ref b), .val (.int (1 : Int32)), .val (.ref b), .val (.int (2 : Int32)), .val (.int (0 : Int32)), .val .null] [(.int (31 : Int32))])) (fun t k => XS.imul X0.here hx rfl (hb hby own_d26_31) rfl k) ?_
  refine own_go (B := s₁.setTop (mkF m 34 #[.val (.ref b), .val (.int (1 : Int32)), .val (.ref b), .val (.int (2 : Int32)), .val (.int (0 : Int32)), .val .null] [.null, (.int (31 : Int32))])) (fun t k => XS.aload X0.here hx rfl (hb hby own_d26_32) rfl rfl k) ?_
  refine own_go (B := s₁.setTop (mkF m 37 #[.val (.ref b), .val (.int (1 : Int32)), .val (.ref b), .val (.int (2 : Int32)), .val (.int (0 : Int32)), .val .null] [(.int (31 : Int32))])) (fun t k => XS.ifnonnullNo X0.here hx rfl (hb hby own_d26_34) rfl k) ?_
  refine own_go (B := s₁.setTop (mkF m 38 #[.val (.ref b), .val (.int (1 : Int32)), .val (.ref b), .val (.int (2 : Int32)), .val (.int (0 : Int32)), .val .null] [(.int (0 : Int32)), (.int (31 : Int32))])) (fun t k => XS.iconst X0.here hx rfl (hb hby own_d26_37) k) ?_
  refine own_go (B := s₁.setTop (mkF m 46 #[.val (.ref b), .val (.int (1 : Int32)), .val (.ref b), .val (.int (2 : Int32)), .val (.int (0 : Int32)), .val .null] [(.int (0 : Int32)), (.int (31 : Int32))])) (fun t k => XS.goto X0.here hx rfl (pc0 := 38) (pc' := 46) rfl (hb hby own_d26_38) (by decide) (by decide) k) ?_
  refine own_go (B := s₁.setTop (mkF m 47 #[.val (.ref b), .val (.int (1 : Int32)), .val (.ref b), .val (.int (2 : Int32)), .val (.int (0 : Int32)), .val .null] [(.int (31 : Int32))])) (fun t k => XS.iadd X0.here hx rfl (hb hby own_d26_46) rfl k) ?_
  refine own_go (B := s₁.setTop (mkF m 48 #[.val (.ref b), .val (.int (31 : Int32)), .val (.ref b), .val (.int (2 : Int32)), .val (.int (0 : Int32)), .val .null] [])) (fun t k => XS.istoreN X0.here hx rfl (hb hby own_d26_47) rfl (l' := #[.val (.ref b), .val (.int (31 : Int32)), .val (.ref b), .val (.int (2 : Int32)), .val (.int (0 : Int32)), .val .null]) rfl k) ?_
  refine own_go (B := s₁.setTop (mkF m 51 #[.val (.ref b), .val (.int (31 : Int32)), .val (.ref b), .val (.int (2 : Int32)), .val (.int (1 : Int32)), .val .null] [])) (fun t k => XS.iinc X0.here hx rfl (hb hby own_d26_48) rfl (l' := #[.val (.ref b), .val (.int (31 : Int32)), .val (.ref b), .val (.int (2 : Int32)), .val (.int (1 : Int32)), .val .null]) rfl k) ?_
  refine own_go (B := s₁.setTop (mkF m 16 #[.val (.ref b), .val (.int (31 : Int32)), .val (.ref b), .val (.int (2 : Int32)), .val (.int (1 : Int32)), .val .null] [])) (fun t k => XS.goto X0.here hx rfl (pc0 := 51) (pc' := 16) rfl (hb hby own_d26_51) (by decide) (by decide) k) ?_
  refine own_go (B := s₁.setTop (mkF m 18 #[.val (.ref b), .val (.int (31 : Int32)), .val (.ref b), .val (.int (2 : Int32)), .val (.int (1 : Int32)), .val .null] [(.int (1 : Int32))])) (fun t k => XS.iload X0.here hx rfl (hb hby own_d26_16) rfl k) ?_
  refine own_go (B := s₁.setTop (mkF m 19 #[.val (.ref b), .val (.int (31 : Int32)), .val (.ref b), .val (.int (2 : Int32)), .val (.int (1 : Int32)), .val .null] [(.int (2 : Int32)), (.int (1 : Int32))])) (fun t k => XS.iloadN X0.here hx rfl (hb hby own_d26_18) rfl k) ?_
  refine own_go (B := s₁.setTop (mkF m 22 #[.val (.ref b), .val (.int (31 : Int32)), .val (.ref b), .val (.int (2 : Int32)), .val (.int (1 : Int32)), .val .null] [])) (fun t k => XS.icmpNo X0.here hx rfl (hb hby own_d26_19) rfl (tlt (by decide : (1 : Int32) < (2 : Int32))).2.1 k) ?_
  refine own_go (B := s₁.setTop (mkF m 23 #[.val (.ref b), .val (.int (31 : Int32)), .val (.ref b), .val (.int (2 : Int32)), .val (.int (1 : Int32)), .val .null] [(.ref b)])) (fun t k => XS.aloadN X0.here hx rfl (hb hby own_d26_22) rfl rfl k) ?_
  refine own_go (B := s₁.setTop (mkF m 25 #[.val (.ref b), .val (.int (31 : Int32)), .val (.ref b), .val (.int (2 : Int32)), .val (.int (1 : Int32)), .val .null] [(.int (1 : Int32)), (.ref b)])) (fun t k => XS.iload X0.here hx rfl (hb hby own_d26_23) rfl k) ?_
  obtain ⟨cl85, Ar85, qr85, Sr85, Nr85, Hr85, Gr85⟩ := id A0
  have hin85 : ¬ ((1 : Int32) < 0 ∨ cl85.slots.size ≤ ((1 : Int32)).toNatClampNeg) := inb_of Sr85 ⟨by decide, by decide⟩
  have hat85 : cl85.slots[((1 : Int32)).toNatClampNeg]? = some .null := Has.at Hr85 hin85 rfl
  refine own_go (B := s₁.setTop (mkF m 26 #[.val (.ref b), .val (.int (31 : Int32)), .val (.ref b), .val (.int (2 : Int32)), .val (.int (1 : Int32)), .val .null] [.null])) (fun t k => X0.aaload hx (j := (1 : Int32)) (v := .null) (by rw [e0]; exact Ar85.1) (State.isArrayOf_alike hZ.alike Ar85.2.1) rfl Ar85.2.2 hin85 hat85 (g := (mkF m 25 #[.val (.ref b), .val (.int (31 : Int32)), .val (.ref b), .val (.int (2 : Int32)), .val (.int (1 : Int32)), .val .null] [(.int (1 : Int32)), (.ref b)])) rfl rfl (hb hby own_d26_25) _ k) ?_
  refine own_go (B := s₁.setTop (mkF m 28 #[.val (.ref b), .val (.int (31 : Int32)), .val (.ref b), .val (.int (2 : Int32)), .val (.int (1 : Int32)), .val .null] [])) (fun t k => XS.astore X0.here hx rfl (hb hby own_d26_26) rfl rfl (l' := #[.val (.ref b), .val (.int (31 : Int32)), .val (.ref b), .val (.int (2 : Int32)), .val (.int (1 : Int32)), .val .null]) rfl k) ?_
  refine own_go (B := s₁.setTop (mkF m 30 #[.val (.ref b), .val (.int (31 : Int32)), .val (.ref b), .val (.int (2 : Int32)), .val (.int (1 : Int32)), .val .null] [(.int (31 : Int32))])) (fun t k => XS.bipush X0.here hx rfl (hb hby own_d26_28) k) ?_
  refine own_go (B := s₁.setTop (mkF m 31 #[.val (.ref b), .val (.int (31 : Int32)), .val (.ref b), .val (.int (2 : Int32)), .val (.int (1 : Int32)), .val .null] [(.int (31 : Int32)), (.int (31 : Int32))])) (fun t k => XS.iloadN X0.here hx rfl (hb hby own_d26_30) rfl k) ?_
  refine own_go (B := s₁.setTop (mkF m 32 #[.val (.ref b), .val (.int (31 : Int32)), .val (.ref b), .val (.int (2 : Int32)), .val (.int (1 : Int32)), .val .null] [(.int (961 : Int32))])) (fun t k => XS.imul X0.here hx rfl (hb hby own_d26_31) rfl k) ?_
  refine own_go (B := s₁.setTop (mkF m 34 #[.val (.ref b), .val (.int (31 : Int32)), .val (.ref b), .val (.int (2 : Int32)), .val (.int (1 : Int32)), .val .null] [.null, (.int (961 : Int32))])) (fun t k => XS.aload X0.here hx rfl (hb hby own_d26_32) rfl rfl k) ?_
  refine own_go (B := s₁.setTop (mkF m 37 #[.val (.ref b), .val (.int (31 : Int32)), .val (.ref b), .val (.int (2 : Int32)), .val (.int (1 : Int32)), .val .null] [(.int (961 : Int32))])) (fun t k => XS.ifnonnullNo X0.here hx rfl (hb hby own_d26_34) rfl k) ?_
  refine own_go (B := s₁.setTop (mkF m 38 #[.val (.ref b), .val (.int (31 : Int32)), .val (.ref b), .val (.int (2 : Int32)), .val (.int (1 : Int32)), .val .null] [(.int (0 : Int32)), (.int (961 : Int32))])) (fun t k => XS.iconst X0.here hx rfl (hb hby own_d26_37) k) ?_
  refine own_go (B := s₁.setTop (mkF m 46 #[.val (.ref b), .val (.int (31 : Int32)), .val (.ref b), .val (.int (2 : Int32)), .val (.int (1 : Int32)), .val .null] [(.int (0 : Int32)), (.int (961 : Int32))])) (fun t k => XS.goto X0.here hx rfl (pc0 := 38) (pc' := 46) rfl (hb hby own_d26_38) (by decide) (by decide) k) ?_
  refine own_go (B := s₁.setTop (mkF m 47 #[.val (.ref b), .val (.int (31 : Int32)), .val (.ref b), .val (.int (2 : Int32)), .val (.int (1 : Int32)), .val .null] [(.int (961 : Int32))])) (fun t k => XS.iadd X0.here hx rfl (hb hby own_d26_46) rfl k) ?_
  refine own_go (B := s₁.setTop (mkF m 48 #[.val (.ref b), .val (.int (961 : Int32)), .val (.ref b), .val (.int (2 : Int32)), .val (.int (1 : Int32)), .val .null] [])) (fun t k => XS.istoreN X0.here hx rfl (hb hby own_d26_47) rfl (l' := #[.val (.ref b), .val (.int (961 : Int32)), .val (.ref b), .val (.int (2 : Int32)), .val (.int (1 : Int32)), .val .null]) rfl k) ?_
  refine own_go (B := s₁.setTop (mkF m 51 #[.val (.ref b), .val (.int (961 : Int32)), .val (.ref b), .val (.int (2 : Int32)), .val (.int (2 : Int32)), .val .null] [])) (fun t k => XS.iinc X0.here hx rfl (hb hby own_d26_48) rfl (l' := #[.val (.ref b), .val (.int (961 : Int32)), .val (.ref b), .val (.int (2 : Int32)), .val (.int (2 : Int32)), .val .null]) rfl k) ?_
  refine own_go (B := s₁.setTop (mkF m 16 #[.val (.ref b), .val (.int (961 : Int32)), .val (.ref b), .val (.int (2 : Int32)), .val (.int (2 : Int32)), .val .null] [])) (fun t k => XS.goto X0.here hx rfl (pc0 := 51) (pc' := 16) rfl (hb hby own_d26_51) (by decide) (by decide) k) ?_
  refine own_go (B := s₁.setTop (mkF m 18 #[.val (.ref b), .val (.int (961 : Int32)), .val (.ref b), .val (.int (2 : Int32)), .val (.int (2 : Int32)), .val .null] [(.int (2 : Int32))])) (fun t k => XS.iload X0.here hx rfl (hb hby own_d26_16) rfl k) ?_
  refine own_go (B := s₁.setTop (mkF m 19 #[.val (.ref b), .val (.int (961 : Int32)), .val (.ref b), .val (.int (2 : Int32)), .val (.int (2 : Int32)), .val .null] [(.int (2 : Int32)), (.int (2 : Int32))])) (fun t k => XS.iloadN X0.here hx rfl (hb hby own_d26_18) rfl k) ?_
  refine own_go (B := s₁.setTop (mkF m 54 #[.val (.ref b), .val (.int (961 : Int32)), .val (.ref b), .val (.int (2 : Int32)), .val (.int (2 : Int32)), .val .null] [])) (fun t k => XS.icmpYes X0.here hx rfl (pc0 := 19) (pc' := 54) rfl (hb hby own_d26_19) rfl (flt (by decide : ¬ ((2 : Int32) < (2 : Int32)))).2.1 (by decide) (by decide) k) ?_
  refine own_go (B := s₁.setTop (mkF m 55 #[.val (.ref b), .val (.int (961 : Int32)), .val (.ref b), .val (.int (2 : Int32)), .val (.int (2 : Int32)), .val .null] [(.int (961 : Int32))])) (fun t k => XS.iloadN X0.here hx rfl (hb hby own_d26_54) rfl k) ?_
  obtain ⟨fs, hr, hrun, hended, hW, hsame⟩ := X0.leave (v := some (.int (961 : Int32))) (fun h => by rw [Bd.returns] at h; cases h)
  refine ⟨_, _, own_retI X0 hx Bd.returns (hb hby own_d26_55) hr, hK _ _ ⟨hrun, hended, _, _, rfl, ?_, ⟨_, rfl⟩, hW, hsame.mono (by decide) (by decide)⟩⟩
  show own_Q_hash2 Z b kb h0 n0 _ s₁.heap _
  rw [e0]
  exact ⟨rfl, N0, rfl⟩
theorem own_ef_sini2 (m : MethodId) (x0 : Addr) (x1 : Addr) (x2 : Addr)  : entryFrame m #[(.ref x0), (.ref x1), (.ref x2)] 3 = mkF m 0 #[.val (.ref x0), .val (.ref x1), .val (.ref x2)] [] := by first | (simp [entryFrame, mkF, argsToLocals, Value.category]; done) | rfl
def own_Q_sini2 (Z : State) (a b : Addr) (kb : ClassId) (w_NONE w_DEF w_EMP w_EL w_ELA mir : Addr) (kd ke : ClassId) (h0 : Heap) (n0 : Nat) (v : Option Value) (h : Heap) (L : List Loc) : Prop := v = none ∧ Fr n0 L ∧ Keep h0 h [a] ∧ Exa Z h a "com/example/invariant/invariant/State"
set_option maxRecDepth 65536 in
set_option maxHeartbeats 40000000 in
theorem own_rm_sini2 (l : Launch) (Z : State) (a0 : Array Value) (hw : ∀ d ∈ tables_1, d.before a0 Z = true) (ws : List Jvm.Cond) (a b : Addr) (kb : ClassId) (w_NONE w_DEF w_EMP w_EL w_ELA mir : Addr) (kd ke : ClassId) (h0 : Heap) (n0 : Nat) (O0 : Old Z n0 h0) (HS : own_St Z w_NONE w_DEF w_EMP w_EL w_ELA mir kd ke) (E1 : Exa Z h0 a "com/example/invariant/invariant/State") (G2 : n0 ≤ a) (F3 : Fld Z h0 a "com/example/invariant/invariant/State" "configuration" "Lcom/example/invariant/invariant/Configuration;" .null) (F4 : Fld Z h0 a "com/example/invariant/invariant/State" "values" "[Lcom/example/invariant/invariant/Value;" .null) (F5 : Fld Z h0 a "com/example/invariant/invariant/State" "hash" "I" (.int (0 : Int32))) (A6 : Arv Z h0 b kb (.object "com/example/invariant/invariant/Value") (2 : Int32) [.null, .null] .null) (E7 : Exa Z h0 b "[Lcom/example/invariant/invariant/Value;") :
    MetFree l (⟨"com/example/invariant/invariant/State", "<init>", "(Lcom/example/invariant/invariant/Configuration;[Lcom/example/invariant/invariant/Value;)V"⟩ : MethodName) (head1 (Jvm.Cond.code (⟨"com/example/invariant/invariant/State", "<init>", "(Lcom/example/invariant/invariant/Configuration;[Lcom/example/invariant/invariant/Value;)V"⟩ : MethodName) prog_96_method_1_code 3 none :: ws) ({ frames := 1, cells := 0, slots := 0, locals := 19 } : Room)) (fun ar9 U => ar9 = #[(.ref a), (.ref w_NONE), (.ref b)] ∧ Z.Warmed39 U.vm ∧ U.heap = h0) (fun _ _ _ _ _ => True) (fun _ U o U' => ∃ v L, o = .returned v ∧ own_Q_sini2 Z a b kb w_NONE w_DEF w_EMP w_EL w_ELA mir kd ke h0 n0 v U'.heap L ∧ FrameEnd U o U' L ({ frames := 1, cells := 0, slots := 0, locals := 19 } : Room).cells ({ frames := 1, cells := 0, slots := 0, locals := 19 } : Room).slots) := by
  refine MetFree.of_bodySF (plainFor_of_name own_pn_3) hisR ?_
  intro p e s m args below meth c s₁ Bd hml0 hP hK0
  obtain ⟨rfl, hZ, hh⟩ := hP
  have hx := Bd.exec
  have hby := Bd.bytes
  have hml : c.maxLocals = 3 := hml0
  have hown : s.vm.findClass "com/example/invariant/invariant/State" = some m.cls := findClass_of_methodNamed Bd.named
  have hnm := (name_of_methodNamed Bd.named Bd.method).1
  have X0 : Stand p l e ({ frames := 1, cells := 0, slots := 0, locals := 19 } : Room) s m #[(.ref a), (.ref w_NONE), (.ref b)] below meth c s₁ [] 0 0 := Stand.of_body Bd
  have e0 : s₁.heap = h0 := by rw [← hh, Bd.state]; rfl
  have N0 := Fr.nil n0
  have K0 := Keep.refl h0 [a]
  refine own_open fun K hK => ?_
  refine own_go (B := s₁.setTop (mkF m 0 #[.val (.ref a), .val (.ref w_NONE), .val (.ref b)] [])) (fun t k => castTop (own_ef_sini2 m a w_NONE b) k) ?_
  refine own_go (B := s₁.setTop (mkF m 1 #[.val (.ref a), .val (.ref w_NONE), .val (.ref b)] [(.ref a)])) (fun t k => XS.aloadN X0.here hx rfl (hb hby own_d1_0) rfl rfl k) ?_
  obtain ⟨T88, X88, e88, st88⟩ := initO X0 hx hZ hown (hw _ (List.mem_of_getElem? (i := 31) rfl)) (hw _ (List.mem_of_getElem? (i := 32) rfl)) (hw _ (List.mem_of_getElem? (i := 33) rfl)) e0 (g := (mkF m 1 #[.val (.ref a), .val (.ref w_NONE), .val (.ref b)] [(.ref a)])) rfl (by rw [hml]; rfl) rfl (hb hby own_d1_1) (by decide) (W := 0) (by show 2 * 0 + _ ≤ _; exact Nat.le_of_eq rfl) (by decide)
  refine own_go (B := T88.setTop (mkF m 4 #[.val (.ref a), .val (.ref w_NONE), .val (.ref b)] [])) (fun t k => st88 _ k) ?_
  refine own_go (B := T88.setTop (mkF m 5 #[.val (.ref a), .val (.ref w_NONE), .val (.ref b)] [(.ref a)])) (fun t k => XS.aloadN X88.here hx rfl (hb hby own_d1_4) rfl rfl k) ?_
  refine own_go (B := T88.setTop (mkF m 6 #[.val (.ref a), .val (.ref w_NONE), .val (.ref b)] [(.ref w_NONE), (.ref a)])) (fun t k => XS.aloadN X88.here hx rfl (hb hby own_d1_5) rfl rfl k) ?_
  obtain ⟨T89, h89, X89, e89, W89, st89⟩ := putF X88 hx hZ hown (host := "") (Or.inl (hw _ (List.mem_of_getElem? (i := 34) rfl))) Via.refl e88 F3 E1 (Or.inr ⟨(hw _ (List.mem_of_getElem? (i := 35) rfl)), rfl, hnm⟩) (hw _ (List.mem_of_getElem? (i := 13) rfl)) (ty := (.object "com/example/invariant/invariant/Configuration")) (by decide) rfl rfl (g := (mkF m 6 #[.val (.ref a), .val (.ref w_NONE), .val (.ref b)] [(.ref w_NONE), (.ref a)])) rfl rfl (hb hby own_d1_6)
  have Fw89 := F3.same W89
  have N89 := Fr.snoc X89 N0 G2
  have O89 := O0.wr W89 G2
  have K89 := K0.wr W89 (Or.inl (by simp))
  refine own_go (B := T89.setTop (mkF m 9 #[.val (.ref a), .val (.ref w_NONE), .val (.ref b)] [])) (fun t k => st89 _ k) ?_
  refine own_go (B := T89.setTop (mkF m 10 #[.val (.ref a), .val (.ref w_NONE), .val (.ref b)] [(.ref a)])) (fun t k => XS.aloadN X89.here hx rfl (hb hby own_d1_9) rfl rfl k) ?_
  refine own_go (B := T89.setTop (mkF m 11 #[.val (.ref a), .val (.ref w_NONE), .val (.ref b)] [(.ref b), (.ref a)])) (fun t k => XS.aloadN X89.here hx rfl (hb hby own_d1_10) rfl rfl k) ?_
  have f90 := (F4.other W89 (Or.inr (slot_ne (Or.inr (hw _ (List.mem_of_getElem? (i := 37) rfl))) (Or.inr (hw _ (List.mem_of_getElem? (i := 35) rfl))) (by decide) (t := (.array (.object "com/example/invariant/invariant/Value"))) (t' := (.object "com/example/invariant/invariant/Configuration")) (by decide) (by decide))))
  have f91 := (E1.wr W89)
  obtain ⟨T92, h92, X92, e92, W92, st92⟩ := putF X89 hx hZ hown (host := "") (Or.inl (hw _ (List.mem_of_getElem? (i := 36) rfl))) Via.refl e89 f90 f91 (Or.inr ⟨(hw _ (List.mem_of_getElem? (i := 37) rfl)), rfl, hnm⟩) (hw _ (List.mem_of_getElem? (i := 13) rfl)) (ty := (.array (.object "com/example/invariant/invariant/Value"))) (by decide) rfl rfl (g := (mkF m 11 #[.val (.ref a), .val (.ref w_NONE), .val (.ref b)] [(.ref b), (.ref a)])) rfl rfl (hb hby own_d1_11)
  have Fw92 := f90.same W92
  have N92 := Fr.snoc X92 N89 G2
  have O92 := O89.wr W92 G2
  have K92 := K89.wr W92 (Or.inl (by simp))
  refine own_go (B := T92.setTop (mkF m 14 #[.val (.ref a), .val (.ref w_NONE), .val (.ref b)] [])) (fun t k => st92 _ k) ?_
  refine own_go (B := T92.setTop (mkF m 15 #[.val (.ref a), .val (.ref w_NONE), .val (.ref b)] [(.ref a)])) (fun t k => XS.aloadN X92.here hx rfl (hb hby own_d1_14) rfl rfl k) ?_
  refine own_go (B := T92.setTop (mkF m 17 #[.val (.ref a), .val (.ref w_NONE), .val (.ref b)] [(.int (31 : Int32)), (.ref a)])) (fun t k => XS.bipush X92.here hx rfl (hb hby own_d1_15) k) ?_
  refine own_go (B := T92.setTop (mkF m 18 #[.val (.ref a), .val (.ref w_NONE), .val (.ref b)] [(.ref w_NONE), (.int (31 : Int32)), (.ref a)])) (fun t k => XS.aloadN X92.here hx rfl (hb hby own_d1_17) rfl rfl k) ?_
  obtain ⟨cq93, kq93, q93a, q93b, q93c⟩ := isOf hZ e92 (HS.2.1.ext O92.2)
  obtain ⟨_, _, ⟨T93, L93, k93, n93⟩, -, X93, ⟨Lc93, hQ93, l93, y93, z93⟩, st93⟩ := X92.virtualBack hx (y := (⟨"com/example/invariant/invariant/Configuration", "hashCode", "()I"⟩ : MethodName)) (z := (⟨"com/example/invariant/invariant/Configuration", "hashCode", "()I"⟩ : MethodName)) hown (mvT hZ (hw _ (List.mem_of_getElem? (i := 38) rfl))) (mvT hZ (hw _ (List.mem_of_getElem? (i := 39) rfl))) (notFace_of_selects (args := #[]) (mvT hZ (hw _ (List.mem_of_getElem? (i := 41) rfl)))) (mvT hZ (hw _ (List.mem_of_getElem? (i := 41) rfl))) (mvT hZ (hw _ (List.mem_of_getElem? (i := 40) rfl))) (by decide) (backOf (W := 2) (own_rm_chash l Z a0 hw [] w_NONE (1 : Int32) h92 n0 O92 HS.2.2.1) hZ (hw _ (List.mem_of_getElem? (i := 42) rfl)) (hw _ (List.mem_of_getElem? (i := 1) rfl)) (by decide) (by decide)) q93a q93c (g := (mkF m 18 #[.val (.ref a), .val (.ref w_NONE), .val (.ref b)] [(.ref w_NONE), (.int (31 : Int32)), (.ref a)])) rfl (by rw [hml]; rfl) (Steps.refl _) (argsL := []) (rest := [(.int (31 : Int32)), (.ref a)]) (lenOf own_pd_0 rfl) rfl (by show 2 * 0 + _ ≤ _; exact Nat.le_of_eq rfl) (hb hby own_d1_18) (fun _ _ => ⟨rfl, e92, (by decide : 0 + 0 ≤ _), (by decide : 0 + 0 ≤ _)⟩)
  dsimp only [Pt.U, Pt.locs, Pt.cells, Pt.slots] at X93 l93 y93 z93 st93 hQ93
  subst l93 y93 z93
  obtain ⟨rfl, N93q, eh93⟩ := hQ93
  have N93 := Fr.app N92 N93q
  refine own_go (B := T93.setTop (mkF m 21 #[.val (.ref a), .val (.ref w_NONE), .val (.ref b)] [(.int (1 : Int32)), (.int (31 : Int32)), (.ref a)])) (fun t k => st93.trans k) ?_
  refine own_go (B := T93.setTop (mkF m 22 #[.val (.ref a), .val (.ref w_NONE), .val (.ref b)] [(.int (31 : Int32)), (.ref a)])) (fun t k => XS.imul X93.here hx rfl (hb hby own_d1_21) rfl k) ?_
  refine own_go (B := T93.setTop (mkF m 23 #[.val (.ref a), .val (.ref w_NONE), .val (.ref b)] [(.ref b), (.int (31 : Int32)), (.ref a)])) (fun t k => XS.aloadN X93.here hx rfl (hb hby own_d1_22) rfl rfl k) ?_
  have f94 := ((E7.wr W89).wr W92)
  have f95 := (f91.wr W92)
  have f96 := ((A6.other W89 (ne_exa f94 f95 (by decide))).other W92 (ne_exa f94 f95 (by decide)))
  obtain ⟨_, _, ⟨T97, L97, k97, n97⟩, -, X97, ⟨Lc97, hQ97, l97, y97, z97⟩, st97⟩ := Jvm.LawKit.callS X93 hx (y := (⟨"java/util/Arrays", "hashCode", "([Ljava/lang/Object;)I"⟩ : MethodName)) hown (mvT hZ (hw _ (List.mem_of_getElem? (i := 45) rfl))) (mvT hZ (hw _ (List.mem_of_getElem? (i := 46) rfl))) (mvT hZ (hw _ (List.mem_of_getElem? (i := 47) rfl))) (mvT hZ (hw _ (List.mem_of_getElem? (i := 48) rfl))) (by decide) (backOf (W := 2) (own_rm_hash2 l Z a0 hw [] b kb h92 n0 O92 f96) hZ (hw _ (List.mem_of_getElem? (i := 48) rfl)) (hw _ (List.mem_of_getElem? (i := 47) rfl)) (by decide) (by decide)) (g := (mkF m 23 #[.val (.ref a), .val (.ref w_NONE), .val (.ref b)] [(.ref b), (.int (31 : Int32)), (.ref a)])) rfl (by rw [hml]; rfl) (argsL := [(.ref b)]) (rest := [(.int (31 : Int32)), (.ref a)]) (lenOf own_pd_1 rfl) rfl (by show 2 * 0 + _ ≤ _; exact Nat.le_of_eq rfl) (hb hby own_d1_23) (fun _ _ => ⟨rfl, eh93, (by decide : 0 + 0 ≤ _), (by decide : 0 + 0 ≤ _)⟩)
  dsimp only [Pt.U, Pt.locs, Pt.cells, Pt.slots] at X97 l97 y97 z97 st97 hQ97
  subst l97 y97 z97
  obtain ⟨rfl, N97q, eh97⟩ := hQ97
  have N97 := Fr.app N93 N97q
  refine own_go (B := T97.setTop (mkF m 26 #[.val (.ref a), .val (.ref w_NONE), .val (.ref b)] [(.int (961 : Int32)), (.int (31 : Int32)), (.ref a)])) (fun t k => st97 _ k) ?_
  refine own_go (B := T97.setTop (mkF m 27 #[.val (.ref a), .val (.ref w_NONE), .val (.ref b)] [(.int (992 : Int32)), (.ref a)])) (fun t k => XS.iadd X97.here hx rfl (hb hby own_d1_26) rfl k) ?_
  have f98 := ((F5.other W89 (Or.inr (slot_ne (Or.inr (hw _ (List.mem_of_getElem? (i := 50) rfl))) (Or.inr (hw _ (List.mem_of_getElem? (i := 35) rfl))) (by decide) (t := .int) (t' := (.object "com/example/invariant/invariant/Configuration")) (by decide) (by decide)))).other W92 (Or.inr (slot_ne (Or.inr (hw _ (List.mem_of_getElem? (i := 50) rfl))) (Or.inr (hw _ (List.mem_of_getElem? (i := 37) rfl))) (by decide) (t := .int) (t' := (.array (.object "com/example/invariant/invariant/Value"))) (by decide) (by decide))))
  obtain ⟨T99, h99, X99, e99, W99, st99⟩ := putF X97 hx hZ hown (host := "") (Or.inl (hw _ (List.mem_of_getElem? (i := 49) rfl))) Via.refl eh97 f98 f95 (Or.inr ⟨(hw _ (List.mem_of_getElem? (i := 50) rfl)), rfl, hnm⟩) (hw _ (List.mem_of_getElem? (i := 13) rfl)) (ty := .int) (by decide) rfl rfl (g := (mkF m 27 #[.val (.ref a), .val (.ref w_NONE), .val (.ref b)] [(.int (992 : Int32)), (.ref a)])) rfl rfl (hb hby own_d1_27)
  have Fw99 := f98.same W99
  have N99 := Fr.snoc X99 N97 G2
  have O99 := O92.wr W99 G2
  have K99 := K92.wr W99 (Or.inl (by simp))
  refine own_go (B := T99.setTop (mkF m 30 #[.val (.ref a), .val (.ref w_NONE), .val (.ref b)] [])) (fun t k => st99 _ k) ?_
  obtain ⟨fs, hr, hrun, hended, hW, hsame⟩ := X99.leave (v := none) (fun _ => rfl)
  have f101 := (f95.wr W99)
  refine ⟨_, _, X99.returnOut hx Bd.returns (hb hby own_d1_30) hr, hK _ _ ⟨hrun, hended, _, _, rfl, ?_, ⟨_, rfl⟩, hW, hsame.mono (by decide) (by decide)⟩⟩
  show own_Q_sini2 Z a b kb w_NONE w_DEF w_EMP w_EL w_ELA mir kd ke h0 n0 _ T99.heap _
  rw [e99]
  exact ⟨rfl, N99, K99, f101⟩
theorem own_ef_of2 (m : MethodId) (x0 : Addr) (x1 : Addr)  : entryFrame m #[(.ref x0), (.ref x1)] 2 = mkF m 0 #[.val (.ref x0), .val (.ref x1)] [] := by first | (simp [entryFrame, mkF, argsToLocals, Value.category]; done) | rfl
def own_Q_of2 (Z : State) (b : Addr) (kb : ClassId) (w_NONE w_DEF w_EMP w_EL w_ELA mir : Addr) (kd ke : ClassId) (h0 : Heap) (n0 : Nat) (v : Option Value) (h : Heap) (L : List Loc) : Prop := ∃ r : Addr, v = some (.ref r) ∧ Fr n0 L ∧ Ext h0 h ∧ h0.size ≤ r ∧ Exa Z h r "com/example/invariant/invariant/State"
set_option maxRecDepth 65536 in
set_option maxHeartbeats 40000000 in
theorem own_rm_of2 (l : Launch) (Z : State) (a0 : Array Value) (hw : ∀ d ∈ tables_1, d.before a0 Z = true) (ws : List Jvm.Cond) (b : Addr) (kb : ClassId) (w_NONE w_DEF w_EMP w_EL w_ELA mir : Addr) (kd ke : ClassId) (h0 : Heap) (n0 : Nat) (O0 : Old Z n0 h0) (HS : own_St Z w_NONE w_DEF w_EMP w_EL w_ELA mir kd ke) (A1 : Arv Z h0 b kb (.object "com/example/invariant/invariant/Value") (2 : Int32) [.null, .null] .null) (E2 : Exa Z h0 b "[Lcom/example/invariant/invariant/Value;") :
    MetFree l (⟨"com/example/invariant/invariant/State", "of", "(Lcom/example/invariant/invariant/Configuration;[Lcom/example/invariant/invariant/Value;)Lcom/example/invariant/invariant/State;"⟩ : MethodName) (head1 (Jvm.Cond.code (⟨"com/example/invariant/invariant/State", "of", "(Lcom/example/invariant/invariant/Configuration;[Lcom/example/invariant/invariant/Value;)Lcom/example/invariant/invariant/State;"⟩ : MethodName) prog_96_method_3_code 2 (some (.object "com/example/invariant/invariant/State")) :: ws) ({ frames := 2, cells := 3, slots := 59, locals := 34 } : Room)) (fun ar9 U => ar9 = #[(.ref w_NONE), (.ref b)] ∧ Z.Warmed39 U.vm ∧ U.heap = h0) (fun _ _ _ _ _ => True) (fun _ U o U' => ∃ v L, o = .returned v ∧ own_Q_of2 Z b kb w_NONE w_DEF w_EMP w_EL w_ELA mir kd ke h0 n0 v U'.heap L ∧ ReturnedEndW U o U' L ({ frames := 2, cells := 3, slots := 59, locals := 34 } : Room).cells ({ frames := 2, cells := 3, slots := 59, locals := 34 } : Room).slots) := by
  refine MetFree.of_bodySF (plainFor_of_name own_pn_3) hisR ?_
  intro p e s m args below meth c s₁ Bd hml0 hP hK0
  obtain ⟨rfl, hZ, hh⟩ := hP
  have hx := Bd.exec
  have hby := Bd.bytes
  have hml : c.maxLocals = 2 := hml0
  have hown : s.vm.findClass "com/example/invariant/invariant/State" = some m.cls := findClass_of_methodNamed Bd.named
  have hnm := (name_of_methodNamed Bd.named Bd.method).1
  have X0 : Stand p l e ({ frames := 2, cells := 3, slots := 59, locals := 34 } : Room) (s.setVm s.vm) m #[(.ref w_NONE), (.ref b)] below meth c s₁ [] 0 0 := Stand.of_body Bd
  have e0 : s₁.heap = h0 := by rw [← hh, Bd.state]; rfl
  have N0 := Fr.nil n0
  have K0 := Keep.refl h0 []
  have hS0 : s.Since s.vm h0.size := (State.WarmedH.refl s).since _
  have hk0 : h0.size ≤ h0.size := Nat.le_refl _
  refine own_open fun K hK => ?_
  refine own_go (B := s₁.setTop (mkF m 0 #[.val (.ref w_NONE), .val (.ref b)] [])) (fun t k => castTop (own_ef_of2 m w_NONE b) k) ?_
  obtain ⟨T102, h102, X102, e102, E102, A102, D102, -, st102⟩ := newO X0 hx hZ hown (hw _ (List.mem_of_getElem? (i := 12) rfl)) (hw _ (List.mem_of_getElem? (i := 13) rfl)) (hw _ (List.mem_of_getElem? (i := 5) rfl)) e0 (g := (mkF m 0 #[.val (.ref w_NONE), .val (.ref b)] [])) rfl (hb hby own_d3_0) (by decide) (by decide)
  obtain ⟨b102, g102⟩ : ∃ z, z = h0.size := ⟨_, rfl⟩
  rw [← g102] at A102 D102 st102
  have lt_b_102 := A1.lt
  have g_b102 : n0 ≤ b102 := Nat.le_trans (own_n0 O0) (Nat.le_of_eq g102.symm)
  have O102 := O0.ext E102
  have sz_b102 : h0.size ≤ b102 := Nat.le_trans K0.1 (Nat.le_of_eq g102.symm)
  have hk103 := Nat.le_trans hk0 E102.1
  have K102 := K0.ext E102
  have F102_35 : Fld Z h102 b102 "com/example/invariant/invariant/State" "configuration" "Lcom/example/invariant/invariant/Configuration;" .null := D102 (Or.inr (hw _ (List.mem_of_getElem? (i := 35) rfl))) (ty := (.object "com/example/invariant/invariant/Configuration")) (by decide)
  have F102_37 : Fld Z h102 b102 "com/example/invariant/invariant/State" "values" "[Lcom/example/invariant/invariant/Value;" .null := D102 (Or.inr (hw _ (List.mem_of_getElem? (i := 37) rfl))) (ty := (.array (.object "com/example/invariant/invariant/Value"))) (by decide)
  have F102_50 : Fld Z h102 b102 "com/example/invariant/invariant/State" "hash" "I" (.int (0 : Int32)) := D102 (Or.inr (hw _ (List.mem_of_getElem? (i := 50) rfl))) (ty := .int) (by decide)
  refine own_go (B := T102.setTop (mkF m 3 #[.val (.ref w_NONE), .val (.ref b)] [(.ref b102)])) (fun t k => st102 _ k) ?_
  refine own_go (B := T102.setTop (mkF m 4 #[.val (.ref w_NONE), .val (.ref b)] [(.ref b102), (.ref b102)])) (fun t k => XS.dup X102.here hx rfl (hb hby own_d3_3) rfl rfl k) ?_
  refine own_go (B := T102.setTop (mkF m 5 #[.val (.ref w_NONE), .val (.ref b)] [(.ref w_NONE), (.ref b102), (.ref b102)])) (fun t k => XS.aloadN X102.here hx rfl (hb hby own_d3_4) rfl rfl k) ?_
  obtain ⟨a104, T104, h104, k104, X104, e104, E104, hS104, hkk104, hZ, hown, st104⟩ := ldcS X102 hx hZ hown (hw _ (List.mem_of_getElem? (i := 14) rfl)) (fun d hd => hw d (own_strAtoms d hd)) e102 hS0 hk103 (g := (mkF m 5 #[.val (.ref w_NONE), .val (.ref b)] [(.ref w_NONE), (.ref b102), (.ref b102)])) rfl (hb hby own_d3_5) (n := 52) (by decide) (by decide) (by decide) (by decide)
  have O104 := O102.ext E104
  have hk105 := Nat.le_trans hk103 E104.1
  have K104 := K102.ext E104
  refine own_go (B := T104.setTop (mkF m 7 #[.val (.ref w_NONE), .val (.ref b)] [(.ref a104), (.ref w_NONE), (.ref b102), (.ref b102)])) (fun t k => st104 _ k) ?_
  obtain ⟨_, _, ⟨T106, L106, k106, n106⟩, -, X106, ⟨Lc106, hQ106, l106, y106, z106⟩, st106⟩ := Jvm.LawKit.callS X104 hx (y := (⟨"java/util/Objects", "requireNonNull", "(Ljava/lang/Object;Ljava/lang/String;)Ljava/lang/Object;"⟩ : MethodName)) hown (mvT hZ (hw _ (List.mem_of_getElem? (i := 22) rfl))) (mvT hZ (hw _ (List.mem_of_getElem? (i := 23) rfl))) (mvT hZ (hw _ (List.mem_of_getElem? (i := 24) rfl))) (mvT hZ (hw _ (List.mem_of_getElem? (i := 25) rfl))) (by decide) (backOf (W := 2) (own_rm_rnn2 l Z a0 hw [] w_NONE a104 h104 n0 O104 ) hZ (hw _ (List.mem_of_getElem? (i := 25) rfl)) (hw _ (List.mem_of_getElem? (i := 24) rfl)) (by decide) (by decide)) (g := (mkF m 7 #[.val (.ref w_NONE), .val (.ref b)] [(.ref a104), (.ref w_NONE), (.ref b102), (.ref b102)])) rfl (by rw [hml]; rfl) (argsL := [(.ref w_NONE), (.ref a104)]) (rest := [(.ref b102), (.ref b102)]) (lenOf own_pd_2 rfl) rfl (by show 2 * 0 + _ ≤ _; exact Nat.le_of_eq rfl) (hb hby own_d3_7) (fun _ _ => ⟨rfl, e104, (by decide : 3 + 0 ≤ _), (by decide : 59 + 0 ≤ _)⟩)
  dsimp only [Pt.U, Pt.locs, Pt.cells, Pt.slots] at X106 l106 y106 z106 st106 hQ106
  subst l106 y106 z106
  obtain ⟨rfl, N106q, eh106⟩ := hQ106
  have N106 := Fr.app N0 N106q
  refine own_go (B := T106.setTop (mkF m 10 #[.val (.ref w_NONE), .val (.ref b)] [(.ref w_NONE), (.ref b102), (.ref b102)])) (fun t k => st106 _ k) ?_
  obtain ⟨T107, X107, e107, st107⟩ := castY X106 hx hZ hown (hw _ (List.mem_of_getElem? (i := 26) rfl)) eh106 (Ins.self (HS.2.1.ext O104.2)) (g := (mkF m 10 #[.val (.ref w_NONE), .val (.ref b)] [(.ref w_NONE), (.ref b102), (.ref b102)])) rfl rfl (hb hby own_d3_10)
  refine own_go (B := T107.setTop (mkF m 13 #[.val (.ref w_NONE), .val (.ref b)] [(.ref w_NONE), (.ref b102), (.ref b102)])) (fun t k => st107 _ k) ?_
  refine own_go (B := T107.setTop (mkF m 14 #[.val (.ref w_NONE), .val (.ref b)] [(.ref b), (.ref w_NONE), (.ref b102), (.ref b102)])) (fun t k => XS.aloadN X107.here hx rfl (hb hby own_d3_13) rfl rfl k) ?_
  have f108 := (A102.ext E104)
  have f109 := (F102_35.ext E104)
  have f110 := (F102_37.ext E104)
  have f111 := (F102_50.ext E104)
  have f112 := ((A1.ext E102).ext E104)
  have f113 := ((E2.ext E102).ext E104)
  have lt_b_114 := f112.lt
  have lt_b102_114 := f108.lt
  obtain ⟨_, _, ⟨T115, L115, k115, n115⟩, -, X115, ⟨Lc115, hQ115, l115, y115, z115⟩, st115⟩ := X107.specialBack hx (y := (⟨"com/example/invariant/invariant/State", "<init>", "(Lcom/example/invariant/invariant/Configuration;[Lcom/example/invariant/invariant/Value;)V"⟩ : MethodName)) rfl hown (mvT hZ (hw _ (List.mem_of_getElem? (i := 28) rfl))) (mvT hZ (hw _ (List.mem_of_getElem? (i := 29) rfl))) (mvT hZ (hw _ (List.mem_of_getElem? (i := 30) rfl))) (by decide) (backOf (W := 1) (own_rm_sini2 l Z a0 hw [] b102 b kb w_NONE w_DEF w_EMP w_EL w_ELA mir kd ke h104 n0 O104 HS f108 g_b102 f109 f110 f111 f112 f113) hZ (hw _ (List.mem_of_getElem? (i := 30) rfl)) (hw _ (List.mem_of_getElem? (i := 5) rfl)) (by decide) (by decide)) (g := (mkF m 14 #[.val (.ref w_NONE), .val (.ref b)] [(.ref b), (.ref w_NONE), (.ref b102), (.ref b102)])) rfl (by rw [hml]; rfl) (Steps.refl _) (a := b102) (argsL := [(.ref w_NONE), (.ref b)]) (rest := [(.ref b102)]) (lenOf own_pd_3 rfl) rfl (by show 2 * 0 + _ ≤ _; exact Nat.le_of_eq rfl) (hb hby own_d3_14) (fun _ _ => ⟨rfl, e107, (by decide : 3 + 0 ≤ _), (by decide : 59 + 0 ≤ _)⟩)
  dsimp only [Pt.U, Pt.locs, Pt.cells, Pt.slots] at X115 l115 y115 z115 st115 hQ115
  subst l115 y115 z115
  obtain ⟨rfl, N115q, Kc115, Q115_0⟩ := hQ115
  have O115 := O104.keep Kc115 (allS g_b102 all0)
  have hk116 := Nat.le_trans hkk104 Kc115.1
  have K115 := K104.trans Kc115 (allS (Or.inr sz_b102) all0)
  have N115 := Fr.app N106 N115q
  refine own_go (B := T115.setTop (mkF m 17 #[.val (.ref w_NONE), .val (.ref b)] [(.ref b102)])) (fun t k => st115.trans k) ?_
  obtain ⟨fs, hr, hrun, hended, hREW⟩ := X115.leaveW hS104 (by rw [(rfl : T115.heap = T115.heap)]; exact hk116) (v := some (.ref b102)) (fun h => by rw [Bd.returns] at h; cases h)
  have Ex118 : Ext h0 T115.heap := ⟨K115.1, fun x c q => K115.2.1 x c q nin0⟩
  refine ⟨_, _, own_retA X115 hx Bd.returns rfl rfl (hb hby own_d3_17) hr, hK _ _ ⟨hrun, hended, _, _, rfl, ?_, ⟨_, rfl⟩, hREW.2.1, hREW.2.2.1, hREW.2.2.2.mono (by decide) (by decide)⟩⟩
  show own_Q_of2 Z b kb w_NONE w_DEF w_EMP w_EL w_ELA mir kd ke h0 n0 _ T115.heap _
  exact ⟨b102, rfl, N115, Ex118, sz_b102, Q115_0⟩
theorem own_ef_hash3 (m : MethodId) (x0 : Addr)  : entryFrame m #[(.ref x0)] 6 = mkF m 0 #[.val (.ref x0), .unset, .unset, .unset, .unset, .unset] [] := by first | (simp [entryFrame, mkF, argsToLocals, Value.category]; done) | rfl
def own_Q_hash3 (Z : State) (b : Addr) (kb : ClassId) (h0 : Heap) (n0 : Nat) (v : Option Value) (h : Heap) (L : List Loc) : Prop := v = some (.int (29791 : Int32)) ∧ Fr n0 L ∧ h = h0
set_option maxRecDepth 65536 in
set_option maxHeartbeats 40000000 in
theorem own_rm_hash3 (l : Launch) (Z : State) (a0 : Array Value) (hw : ∀ d ∈ tables_1, d.before a0 Z = true) (ws : List Jvm.Cond) (b : Addr) (kb : ClassId) (h0 : Heap) (n0 : Nat) (O0 : Old Z n0 h0) (A0 : Arv Z h0 b kb (.object "com/example/invariant/invariant/Value") (3 : Int32) [.null, .null, .null] .null) :
    MetFree l (⟨"java/util/Arrays", "hashCode", "([Ljava/lang/Object;)I"⟩ : MethodName) (head1 (Jvm.Cond.code (⟨"java/util/Arrays", "hashCode", "([Ljava/lang/Object;)I"⟩ : MethodName) jdk_65_method_157_code 6 (some .int) :: ws) ({ frames := 0, cells := 0, slots := 0, locals := 0 } : Room)) (fun ar9 U => ar9 = #[(.ref b)] ∧ Z.Warmed39 U.vm ∧ U.heap = h0) (fun _ _ _ _ _ => True) (fun _ U o U' => ∃ v L, o = .returned v ∧ own_Q_hash3 Z b kb h0 n0 v U'.heap L ∧ FrameEnd U o U' L ({ frames := 0, cells := 0, slots := 0, locals := 0 } : Room).cells ({ frames := 0, cells := 0, slots := 0, locals := 0 } : Room).slots) := by
  refine MetFree.of_bodySF (plainFor_of_name own_pn_2) hisR ?_
  intro p e s m args below meth c s₁ Bd hml0 hP hK0
  obtain ⟨rfl, hZ, hh⟩ := hP
  have hx := Bd.exec
  have hby := Bd.bytes
  have hml : c.maxLocals = 6 := hml0
  have hown : s.vm.findClass "java/util/Arrays" = some m.cls := findClass_of_methodNamed Bd.named
  have hnm := (name_of_methodNamed Bd.named Bd.method).1
  have X0 : Stand p l e ({ frames := 0, cells := 0, slots := 0, locals := 0 } : Room) s m #[(.ref b)] below meth c s₁ [] 0 0 := Stand.of_body Bd
  have e0 : s₁.heap = h0 := by rw [← hh, Bd.state]; rfl
  have N0 := Fr.nil n0
  refine own_open fun K hK => ?_
  refine own_go (B := s₁.setTop (mkF m 0 #[.val (.ref b), .unset, .unset, .unset, .unset, .unset] [])) (fun t k => castTop (own_ef_hash3 m b) k) ?_
  refine own_go (B := s₁.setTop (mkF m 1 #[.val (.ref b), .unset, .unset, .unset, .unset, .unset] [(.ref b)])) (fun t k => XS.aloadN X0.here hx rfl (hb hby own_d26_0) rfl rfl k) ?_
  refine own_go (B := s₁.setTop (mkF m 6 #[.val (.ref b), .unset, .unset, .unset, .unset, .unset] [])) (fun t k => XS.ifnonnullYes X0.here hx rfl (pc0 := 1) (pc' := 6) rfl (hb hby own_d26_1) rfl (by decide) (by decide) k) ?_
  refine own_go (B := s₁.setTop (mkF m 7 #[.val (.ref b), .unset, .unset, .unset, .unset, .unset] [(.int (1 : Int32))])) (fun t k => XS.iconst X0.here hx rfl (hb hby own_d26_6) k) ?_
  refine own_go (B := s₁.setTop (mkF m 8 #[.val (.ref b), .val (.int (1 : Int32)), .unset, .unset, .unset, .unset] [])) (fun t k => XS.istoreN X0.here hx rfl (hb hby own_d26_7) rfl (l' := #[.val (.ref b), .val (.int (1 : Int32)), .unset, .unset, .unset, .unset]) rfl k) ?_
  refine own_go (B := s₁.setTop (mkF m 9 #[.val (.ref b), .val (.int (1 : Int32)), .unset, .unset, .unset, .unset] [(.ref b)])) (fun t k => XS.aloadN X0.here hx rfl (hb hby own_d26_8) rfl rfl k) ?_
  refine own_go (B := s₁.setTop (mkF m 10 #[.val (.ref b), .val (.int (1 : Int32)), .val (.ref b), .unset, .unset, .unset] [])) (fun t k => XS.astoreN X0.here hx rfl (hb hby own_d26_9) rfl rfl (l' := #[.val (.ref b), .val (.int (1 : Int32)), .val (.ref b), .unset, .unset, .unset]) rfl k) ?_
  refine own_go (B := s₁.setTop (mkF m 11 #[.val (.ref b), .val (.int (1 : Int32)), .val (.ref b), .unset, .unset, .unset] [(.ref b)])) (fun t k => XS.aloadN X0.here hx rfl (hb hby own_d26_10) rfl rfl k) ?_
  obtain ⟨cl119, Ar119, qr119, Sr119, Nr119, Hr119, Gr119⟩ := id A0
  refine own_go (B := s₁.setTop (mkF m 12 #[.val (.ref b), .val (.int (1 : Int32)), .val (.ref b), .unset, .unset, .unset] [(.int (3 : Int32))])) (fun t k => X0.arraylength hx (by rw [e0]; exact Ar119.1) (State.isArrayOf_alike hZ.alike Ar119.2.1) (g := (mkF m 11 #[.val (.ref b), .val (.int (1 : Int32)), .val (.ref b), .unset, .unset, .unset] [(.ref b)])) rfl rfl (hb hby own_d26_11) _ (by rw [len_of Sr119 Nr119]; exact k)) ?_
  refine own_go (B := s₁.setTop (mkF m 13 #[.val (.ref b), .val (.int (1 : Int32)), .val (.ref b), .val (.int (3 : Int32)), .unset, .unset] [])) (fun t k => XS.istoreN X0.here hx rfl (hb hby own_d26_12) rfl (l' := #[.val (.ref b), .val (.int (1 : Int32)), .val (.ref b), .val (.int (3 : Int32)), .unset, .unset]) rfl k) ?_
  refine own_go (B := s₁.setTop (mkF m 14 #[.val (.ref b), .val (.int (1 : Int32)), .val (.ref b), .val (.int (3 : Int32)), .unset, .unset] [(.int (0 : Int32))])) (fun t k => XS.iconst X0.here hx rfl (hb hby own_d26_13) k) ?_
  refine own_go (B := s₁.setTop (mkF m 16 #[.val (.ref b), .val (.int (1 : Int32)), .val (.ref b), .val (.int (3 : Int32)), .val (.int (0 : Int32)), .unset] [])) (fun t k => XS.istore X0.here hx rfl (hb hby own_d26_14) rfl (l' := #[.val (.ref b), .val (.int (1 : Int32)), .val (.ref b), .val (.int (3 : Int32)), .val (.int (0 : Int32)), .unset]) rfl k) ?_
  refine own_go (B := s₁.setTop (mkF m 18 #[.val (.ref b), .val (.int (1 : Int32)), .val (.ref b), .val (.int (3 : Int32)), .val (.int (0 : Int32)), .unset] [(.int (0 : Int32))])) (fun t k => XS.iload X0.here hx rfl (hb hby own_d26_16) rfl k) ?_
  refine own_go (B := s₁.setTop (mkF m 19 #[.val (.ref b), .val (.int (1 : Int32)), .val (.ref b), .val (.int (3 : Int32)), .val (.int (0 : Int32)), .unset] [(.int (3 : Int32)), (.int (0 : Int32))])) (fun t k => XS.iloadN X0.here hx rfl (hb hby own_d26_18) rfl k) ?_
  refine own_go (B := s₁.setTop (mkF m 22 #[.val (.ref b), .val (.int (1 : Int32)), .val (.ref b), .val (.int (3 : Int32)), .val (.int (0 : Int32)), .unset] [])) (fun t k => XS.icmpNo X0.here hx rfl (hb hby own_d26_19) rfl (tlt (by decide : (0 : Int32) < (3 : Int32))).2.1 k) ?_
  refine own_go (B := s₁.setTop (mkF m 23 #[.val (.ref b), .val (.int (1 : Int32)), .val (.ref b), .val (.int (3 : Int32)), .val (.int (0 : Int32)), .unset] [(.ref b)])) (fun t k => XS.aloadN X0.here hx rfl (hb hby own_d26_22) rfl rfl k) ?_
  refine own_go (B := s₁.setTop (mkF m 25 #[.val (.ref b), .val (.int (1 : Int32)), .val (.ref b), .val (.int (3 : Int32)), .val (.int (0 : Int32)), .unset] [(.int (0 : Int32)), (.ref b)])) (fun t k => XS.iload X0.here hx rfl (hb hby own_d26_23) rfl k) ?_
  obtain ⟨cl121, Ar121, qr121, Sr121, Nr121, Hr121, Gr121⟩ := id A0
  have hin121 : ¬ ((0 : Int32) < 0 ∨ cl121.slots.size ≤ ((0 : Int32)).toNatClampNeg) := inb_of Sr121 ⟨by decide, by decide⟩
  have hat121 : cl121.slots[((0 : Int32)).toNatClampNeg]? = some .null := Has.at Hr121 hin121 rfl
  refine own_go (B := s₁.setTop (mkF m 26 #[.val (.ref b), .val (.int (1 : Int32)), .val (.ref b), .val (.int (3 : Int32)), .val (.int (0 : Int32)), .unset] [.null])) (fun t k => X0.aaload hx (j := (0 : Int32)) (v := .null) (by rw [e0]; exact Ar121.1) (State.isArrayOf_alike hZ.alike Ar121.2.1) rfl Ar121.2.2 hin121 hat121 (g := (mkF m 25 #[.val (.ref b), .val (.int (1 : Int32)), .val (.ref b), .val (.int (3 : Int32)), .val (.int (0 : Int32)), .unset] [(.int (0 : Int32)), (.ref b)])) rfl rfl (hb hby own_d26_25) _ k) ?_
  refine own_go (B := s₁.setTop (mkF m 28 #[.val (.ref b), .val (.int (1 : Int32)), .val (.ref b), .val (.int (3 : Int32)), .val (.int (0 : Int32)), .val .null] [])) (fun t k => XS.astore X0.here hx rfl (hb hby own_d26_26) rfl rfl (l' := #[.val (.ref b), .val (.int (1 : Int32)), .val (.ref b), .val (.int (3 : Int32)), .val (.int (0 : Int32)), .val .null]) rfl k) ?_
  refine own_go (B := s₁.setTop (mkF m 30 #[.val (.ref b), .val (.int (1 : Int32)), .val (.ref b), .val (.int (3 : Int32)), .val (.int (0 : Int32)), .val .null] [(.int (31 : Int32))])) (fun t k => XS.bipush X0.here hx rfl (hb hby own_d26_28) k) ?_
  refine own_go (B := s₁.setTop (mkF m 31 #[.val (.ref b), .val (.int (1 : Int32)), .val (.ref b), .val (.int (3 : Int32)), .val (.int (0 : Int32)), .val .null] [(.int (1 : Int32)), (.int (31 : Int32))])) (fun t k => XS.iloadN X0.here hx rfl (hb hby own_d26_30) rfl k) ?_
  refine own_go (B := s₁.setTop (mkF m 32 #[.val (.ref b), .val (.int (1 : Int32)), .val (.ref b), .val (.int (3 : Int32)), .val (.int (0 : Int32)), .val .null] [(.int (31 : Int32))])) (fun t k => XS.imul X0.here hx rfl (hb hby own_d26_31) rfl k) ?_
  refine own_go (B := s₁.setTop (mkF m 34 #[.val (.ref b), .val (.int (1 : Int32)), .val (.ref b), .val (.int (3 : Int32)), .val (.int (0 : Int32)), .val .null] [.null, (.int (31 : Int32))])) (fun t k => XS.aload X0.here hx rfl (hb hby own_d26_32) rfl rfl k) ?_
  refine own_go (B := s₁.setTop (mkF m 37 #[.val (.ref b), .val (.int (1 : Int32)), .val (.ref b), .val (.int (3 : Int32)), .val (.int (0 : Int32)), .val .null] [(.int (31 : Int32))])) (fun t k => XS.ifnonnullNo X0.here hx rfl (hb hby own_d26_34) rfl k) ?_
  refine own_go (B := s₁.setTop (mkF m 38 #[.val (.ref b), .val (.int (1 : Int32)), .val (.ref b), .val (.int (3 : Int32)), .val (.int (0 : Int32)), .val .null] [(.int (0 : Int32)), (.int (31 : Int32))])) (fun t k => XS.iconst X0.here hx rfl (hb hby own_d26_37) k) ?_
  refine own_go (B := s₁.setTop (mkF m 46 #[.val (.ref b), .val (.int (1 : Int32)), .val (.ref b), .val (.int (3 : Int32)), .val (.int (0 : Int32)), .val .null] [(.int (0 : Int32)), (.int (31 : Int32))])) (fun t k => XS.goto X0.here hx rfl (pc0 := 38) (pc' := 46) rfl (hb hby own_d26_38) (by decide) (by decide) k) ?_
  refine own_go (B := s₁.setTop (mkF m 47 #[.val (.ref b), .val (.int (1 : Int32)), .val (.ref b), .val (.int (3 : Int32)), .val (.int (0 : Int32)), .val .null] [(.int (31 : Int32))])) (fun t k => XS.iadd X0.here hx rfl (hb hby own_d26_46) rfl k) ?_
  refine own_go (B := s₁.setTop (mkF m 48 #[.val (.ref b), .val (.int (31 : Int32)), .val (.ref b), .val (.int (3 : Int32)), .val (.int (0 : Int32)), .val .null] [])) (fun t k => XS.istoreN X0.here hx rfl (hb hby own_d26_47) rfl (l' := #[.val (.ref b), .val (.int (31 : Int32)), .val (.ref b), .val (.int (3 : Int32)), .val (.int (0 : Int32)), .val .null]) rfl k) ?_
  refine own_go (B := s₁.setTop (mkF m 51 #[.val (.ref b), .val (.int (31 : Int32)), .val (.ref b), .val (.int (3 : Int32)), .val (.int (1 : Int32)), .val .null] [])) (fun t k => XS.iinc X0.here hx rfl (hb hby own_d26_48) rfl (l' := #[.val (.ref b), .val (.int (31 : Int32)), .val (.ref b), .val (.int (3 : Int32)), .val (.int (1 : Int32)), .val .null]) rfl k) ?_
  refine own_go (B := s₁.setTop (mkF m 16 #[.val (.ref b), .val (.int (31 : Int32)), .val (.ref b), .val (.int (3 : Int32)), .val (.int (1 : Int32)), .val .null] [])) (fun t k => XS.goto X0.here hx rfl (pc0 := 51) (pc' := 16) rfl (hb hby own_d26_51) (by decide) (by decide) k) ?_
  refine own_go (B := s₁.setTop (mkF m 18 #[.val (.ref b), .val (.int (31 : Int32)), .val (.ref b), .val (.int (3 : Int32)), .val (.int (1 : Int32)), .val .null] [(.int (1 : Int32))])) (fun t k => XS.iload X0.here hx rfl (hb hby own_d26_16) rfl k) ?_
  refine own_go (B := s₁.setTop (mkF m 19 #[.val (.ref b), .val (.int (31 : Int32)), .val (.ref b), .val (.int (3 : Int32)), .val (.int (1 : Int32)), .val .null] [(.int (3 : Int32)), (.int (1 : Int32))])) (fun t k => XS.iloadN X0.here hx rfl (hb hby own_d26_18) rfl k) ?_
  refine own_go (B := s₁.setTop (mkF m 22 #[.val (.ref b), .val (.int (31 : Int32)), .val (.ref b), .val (.int (3 : Int32)), .val (.int (1 : Int32)), .val .null] [])) (fun t k => XS.icmpNo X0.here hx rfl (hb hby own_d26_19) rfl (tlt (by decide : (1 : Int32) < (3 : Int32))).2.1 k) ?_
  refine own_go (B := s₁.setTop (mkF m 23 #[.val (.ref b), .val (.int (31 : Int32)), .val (.ref b), .val (.int (3 : Int32)), .val (.int (1 : Int32)), .val .null] [(.ref b)])) (fun t k => XS.aloadN X0.here hx rfl (hb hby own_d26_22) rfl rfl k) ?_
  refine own_go (B := s₁.setTop (mkF m 25 #[.val (.ref b), .val (.int (31 : Int32)), .val (.ref b), .val (.int (3 : Int32)), .val (.int (1 : Int32)), .val .null] [(.int (1 : Int32)), (.ref b)])) (fun t k => XS.iload X0.here hx rfl (hb hby own_d26_23) rfl k) ?_
  obtain ⟨cl123, Ar123, qr123, Sr123, Nr123, Hr123, Gr123⟩ := id A0
  have hin123 : ¬ ((1 : Int32) < 0 ∨ cl123.slots.size ≤ ((1 : Int32)).toNatClampNeg) := inb_of Sr123 ⟨by decide, by decide⟩
  have hat123 : cl123.slots[((1 : Int32)).toNatClampNeg]? = some .null := Has.at Hr123 hin123 rfl
  refine own_go (B := s₁.setTop (mkF m 26 #[.val (.ref b), .val (.int (31 : Int32)), .val (.ref b), .val (.int (3 : Int32)), .val (.int (1 : Int32)), .val .null] [.null])) (fun t k => X0.aaload hx (j := (1 : Int32)) (v := .null) (by rw [e0]; exact Ar123.1) (State.isArrayOf_alike hZ.alike Ar123.2.1) rfl Ar123.2.2 hin123 hat123 (g := (mkF m 25 #[.val (.ref b), .val (.int (31 : Int32)), .val (.ref b), .val (.int (3 : Int32)), .val (.int (1 : Int32)), .val .null] [(.int (1 : Int32)), (.ref b)])) rfl rfl (hb hby own_d26_25) _ k) ?_
  refine own_go (B := s₁.setTop (mkF m 28 #[.val (.ref b), .val (.int (31 : Int32)), .val (.ref b), .val (.int (3 : Int32)), .val (.int (1 : Int32)), .val .null] [])) (fun t k => XS.astore X0.here hx rfl (hb hby own_d26_26) rfl rfl (l' := #[.val (.ref b), .val (.int (31 : Int32)), .val (.ref b), .val (.int (3 : Int32)), .val (.int (1 : Int32)), .val .null]) rfl k) ?_
  refine own_go (B := s₁.setTop (mkF m 30 #[.val (.ref b), .val (.int (31 : Int32)), .val (.ref b), .val (.int (3 : Int32)), .val (.int (1 : Int32)), .val .null] [(.int (31 : Int32))])) (fun t k => XS.bipush X0.here hx rfl (hb hby own_d26_28) k) ?_
  refine own_go (B := s₁.setTop (mkF m 31 #[.val (.ref b), .val (.int (31 : Int32)), .val (.ref b), .val (.int (3 : Int32)), .val (.int (1 : Int32)), .val .null] [(.int (31 : Int32)), (.int (31 : Int32))])) (fun t k => XS.iloadN X0.here hx rfl (hb hby own_d26_30) rfl k) ?_
  refine own_go (B := s₁.setTop (mkF m 32 #[.val (.ref b), .val (.int (31 : Int32)), .val (.ref b), .val (.int (3 : Int32)), .val (.int (1 : Int32)), .val .null] [(.int (961 : Int32))])) (fun t k => XS.imul X0.here hx rfl (hb hby own_d26_31) rfl k) ?_
  refine own_go (B := s₁.setTop (mkF m 34 #[.val (.ref b), .val (.int (31 : Int32)), .val (.ref b), .val (.int (3 : Int32)), .val (.int (1 : Int32)), .val .null] [.null, (.int (961 : Int32))])) (fun t k => XS.aload X0.here hx rfl (hb hby own_d26_32) rfl rfl k) ?_
  refine own_go (B := s₁.setTop (mkF m 37 #[.val (.ref b), .val (.int (31 : Int32)), .val (.ref b), .val (.int (3 : Int32)), .val (.int (1 : Int32)), .val .null] [(.int (961 : Int32))])) (fun t k => XS.ifnonnullNo X0.here hx rfl (hb hby own_d26_34) rfl k) ?_
  refine own_go (B := s₁.setTop (mkF m 38 #[.val (.ref b), .val (.int (31 : Int32)), .val (.ref b), .val (.int (3 : Int32)), .val (.int (1 : Int32)), .val .null] [(.int (0 : Int32)), (.int (961 : Int32))])) (fun t k => XS.iconst X0.here hx rfl (hb hby own_d26_37) k) ?_
  refine own_go (B := s₁.setTop (mkF m 46 #[.val (.ref b), .val (.int (31 : Int32)), .val (.ref b), .val (.int (3 : Int32)), .val (.int (1 : Int32)), .val .null] [(.int (0 : Int32)), (.int (961 : Int32))])) (fun t k => XS.goto X0.here hx rfl (pc0 := 38) (pc' := 46) rfl (hb hby own_d26_38) (by decide) (by decide) k) ?_
  refine own_go (B := s₁.setTop (mkF m 47 #[.val (.ref b), .val (.int (31 : Int32)), .val (.ref b), .val (.int (3 : Int32)), .val (.int (1 : Int32)), .val .null] [(.int (961 : Int32))])) (fun t k => XS.iadd X0.here hx rfl (hb hby own_d26_46) rfl k) ?_
  refine own_go (B := s₁.setTop (mkF m 48 #[.val (.ref b), .val (.int (961 : Int32)), .val (.ref b), .val (.int (3 : Int32)), .val (.int (1 : Int32)), .val .null] [])) (fun t k => XS.istoreN X0.here hx rfl (hb hby own_d26_47) rfl (l' := #[.val (.ref b), .val (.int (961 : Int32)), .val (.ref b), .val (.int (3 : Int32)), .val (.int (1 : Int32)), .val .null]) rfl k) ?_
  refine own_go (B := s₁.setTop (mkF m 51 #[.val (.ref b), .val (.int (961 : Int32)), .val (.ref b), .val (.int (3 : Int32)), .val (.int (2 : Int32)), .val .null] [])) (fun t k => XS.iinc X0.here hx rfl (hb hby own_d26_48) rfl (l' := #[.val (.ref b), .val (.int (961 : Int32)), .val (.ref b), .val (.int (3 : Int32)), .val (.int (2 : Int32)), .val .null]) rfl k) ?_
  refine own_go (B := s₁.setTop (mkF m 16 #[.val (.ref b), .val (.int (961 : Int32)), .val (.ref b), .val (.int (3 : Int32)), .val (.int (2 : Int32)), .val .null] [])) (fun t k => XS.goto X0.here hx rfl (pc0 := 51) (pc' := 16) rfl (hb hby own_d26_51) (by decide) (by decide) k) ?_
  refine own_go (B := s₁.setTop (mkF m 18 #[.val (.ref b), .val (.int (961 : Int32)), .val (.ref b), .val (.int (3 : Int32)), .val (.int (2 : Int32)), .val .null] [(.int (2 : Int32))])) (fun t k => XS.iload X0.here hx rfl (hb hby own_d26_16) rfl k) ?_
  refine own_go (B := s₁.setTop (mkF m 19 #[.val (.ref b), .val (.int (961 : Int32)), .val (.ref b), .val (.int (3 : Int32)), .val (.int (2 : Int32)), .val .null] [(.int (3 : Int32)), (.int (2 : Int32))])) (fun t k => XS.iloadN X0.here hx rfl (hb hby own_d26_18) rfl k) ?_
  refine own_go (B := s₁.setTop (mkF m 22 #[.val (.ref b), .val (.int (961 : Int32)), .val (.ref b), .val (.int (3 : Int32)), .val (.int (2 : Int32)), .val .null] [])) (fun t k => XS.icmpNo X0.here hx rfl (hb hby own_d26_19) rfl (tlt (by decide : (2 : Int32) < (3 : Int32))).2.1 k) ?_
  refine own_go (B := s₁.setTop (mkF m 23 #[.val (.ref b), .val (.int (961 : Int32)), .val (.ref b), .val (.int (3 : Int32)), .val (.int (2 : Int32)), .val .null] [(.ref b)])) (fun t k => XS.aloadN X0.here hx rfl (hb hby own_d26_22) rfl rfl k) ?_
  refine own_go (B := s₁.setTop (mkF m 25 #[.val (.ref b), .val (.int (961 : Int32)), .val (.ref b), .val (.int (3 : Int32)), .val (.int (2 : Int32)), .val .null] [(.int (2 : Int32)), (.ref b)])) (fun t k => XS.iload X0.here hx rfl (hb hby own_d26_23) rfl k) ?_
  obtain ⟨cl125, Ar125, qr125, Sr125, Nr125, Hr125, Gr125⟩ := id A0
  have hin125 : ¬ ((2 : Int32) < 0 ∨ cl125.slots.size ≤ ((2 : Int32)).toNatClampNeg) := inb_of Sr125 ⟨by decide, by decide⟩
  have hat125 : cl125.slots[((2 : Int32)).toNatClampNeg]? = some .null := Has.at Hr125 hin125 rfl
  refine own_go (B := s₁.setTop (mkF m 26 #[.val (.ref b), .val (.int (961 : Int32)), .val (.ref b), .val (.int (3 : Int32)), .val (.int (2 : Int32)), .val .null] [.null])) (fun t k => X0.aaload hx (j := (2 : Int32)) (v := .null) (by rw [e0]; exact Ar125.1) (State.isArrayOf_alike hZ.alike Ar125.2.1) rfl Ar125.2.2 hin125 hat125 (g := (mkF m 25 #[.val (.ref b), .val (.int (961 : Int32)), .val (.ref b), .val (.int (3 : Int32)), .val (.int (2 : Int32)), .val .null] [(.int (2 : Int32)), (.ref b)])) rfl rfl (hb hby own_d26_25) _ k) ?_
  refine own_go (B := s₁.setTop (mkF m 28 #[.val (.ref b), .val (.int (961 : Int32)), .val (.ref b), .val (.int (3 : Int32)), .val (.int (2 : Int32)), .val .null] [])) (fun t k => XS.astore X0.here hx rfl (hb hby own_d26_26) rfl rfl (l' := #[.val (.ref b), .val (.int (961 : Int32)), .val (.ref b), .val (.int (3 : Int32)), .val (.int (2 : Int32)), .val .null]) rfl k) ?_
  refine own_go (B := s₁.setTop (mkF m 30 #[.val (.ref b), .val (.int (961 : Int32)), .val (.ref b), .val (.int (3 : Int32)), .val (.int (2 : Int32)), .val .null] [(.int (31 : Int32))])) (fun t k => XS.bipush X0.here hx rfl (hb hby own_d26_28) k) ?_
  refine own_go (B := s₁.setTop (mkF m 31 #[.val (.ref b), .val (.int (961 : Int32)), .val (.ref b), .val (.int (3 : Int32)), .val (.int (2 : Int32)), .val .null] [(.int (961 : Int32)), (.int (31 : Int32))])) (fun t k => XS.iloadN X0.here hx rfl (hb hby own_d26_30) rfl k) ?_
  refine own_go (B := s₁.setTop (mkF m 32 #[.val (.ref b), .val (.int (961 : Int32)), .val (.ref b), .val (.int (3 : Int32)), .val (.int (2 : Int32)), .val .null] [(.int (29791 : Int32))])) (fun t k => XS.imul X0.here hx rfl (hb hby own_d26_31) rfl k) ?_
  refine own_go (B := s₁.setTop (mkF m 34 #[.val (.ref b), .val (.int (961 : Int32)), .val (.ref b), .val (.int (3 : Int32)), .val (.int (2 : Int32)), .val .null] [.null, (.int (29791 : Int32))])) (fun t k => XS.aload X0.here hx rfl (hb hby own_d26_32) rfl rfl k) ?_
  refine own_go (B := s₁.setTop (mkF m 37 #[.val (.ref b), .val (.int (961 : Int32)), .val (.ref b), .val (.int (3 : Int32)), .val (.int (2 : Int32)), .val .null] [(.int (29791 : Int32))])) (fun t k => XS.ifnonnullNo X0.here hx rfl (hb hby own_d26_34) rfl k) ?_
  refine own_go (B := s₁.setTop (mkF m 38 #[.val (.ref b), .val (.int (961 : Int32)), .val (.ref b), .val (.int (3 : Int32)), .val (.int (2 : Int32)), .val .null] [(.int (0 : Int32)), (.int (29791 : Int32))])) (fun t k => XS.iconst X0.here hx rfl (hb hby own_d26_37) k) ?_
  refine own_go (B := s₁.setTop (mkF m 46 #[.val (.ref b), .val (.int (961 : Int32)), .val (.ref b), .val (.int (3 : Int32)), .val (.int (2 : Int32)), .val .null] [(.int (0 : Int32)), (.int (29791 : Int32))])) (fun t k => XS.goto X0.here hx rfl (pc0 := 38) (pc' := 46) rfl (hb hby own_d26_38) (by decide) (by decide) k) ?_
  refine own_go (B := s₁.setTop (mkF m 47 #[.val (.ref b), .val (.int (961 : Int32)), .val (.ref b), .val (.int (3 : Int32)), .val (.int (2 : Int32)), .val .null] [(.int (29791 : Int32))])) (fun t k => XS.iadd X0.here hx rfl (hb hby own_d26_46) rfl k) ?_
  refine own_go (B := s₁.setTop (mkF m 48 #[.val (.ref b), .val (.int (29791 : Int32)), .val (.ref b), .val (.int (3 : Int32)), .val (.int (2 : Int32)), .val .null] [])) (fun t k => XS.istoreN X0.here hx rfl (hb hby own_d26_47) rfl (l' := #[.val (.ref b), .val (.int (29791 : Int32)), .val (.ref b), .val (.int (3 : Int32)), .val (.int (2 : Int32)), .val .null]) rfl k) ?_
  refine own_go (B := s₁.setTop (mkF m 51 #[.val (.ref b), .val (.int (29791 : Int32)), .val (.ref b), .val (.int (3 : Int32)), .val (.int (3 : Int32)), .val .null] [])) (fun t k => XS.iinc X0.here hx rfl (hb hby own_d26_48) rfl (l' := #[.val (.ref b), .val (.int (29791 : Int32)), .val (.ref b), .val (.int (3 : Int32)), .val (.int (3 : Int32)), .val .null]) rfl k) ?_
  refine own_go (B := s₁.setTop (mkF m 16 #[.val (.ref b), .val (.int (29791 : Int32)), .val (.ref b), .val (.int (3 : Int32)), .val (.int (3 : Int32)), .val .null] [])) (fun t k => XS.goto X0.here hx rfl (pc0 := 51) (pc' := 16) rfl (hb hby own_d26_51) (by decide) (by decide) k) ?_
  refine own_go (B := s₁.setTop (mkF m 18 #[.val (.ref b), .val (.int (29791 : Int32)), .val (.ref b), .val (.int (3 : Int32)), .val (.int (3 : Int32)), .val .null] [(.int (3 : Int32))])) (fun t k => XS.iload X0.here hx rfl (hb hby own_d26_16) rfl k) ?_
  refine own_go (B := s₁.setTop (mkF m 19 #[.val (.ref b), .val (.int (29791 : Int32)), .val (.ref b), .val (.int (3 : Int32)), .val (.int (3 : Int32)), .val .null] [(.int (3 : Int32)), (.int (3 : Int32))])) (fun t k => XS.iloadN X0.here hx rfl (hb hby own_d26_18) rfl k) ?_
  refine own_go (B := s₁.setTop (mkF m 54 #[.val (.ref b), .val (.int (29791 : Int32)), .val (.ref b), .val (.int (3 : Int32)), .val (.int (3 : Int32)), .val .null] [])) (fun t k => XS.icmpYes X0.here hx rfl (pc0 := 19) (pc' := 54) rfl (hb hby own_d26_19) rfl (flt (by decide : ¬ ((3 : Int32) < (3 : Int32)))).2.1 (by decide) (by decide) k) ?_
  refine own_go (B := s₁.setTop (mkF m 55 #[.val (.ref b), .val (.int (29791 : Int32)), .val (.ref b), .val (.int (3 : Int32)), .val (.int (3 : Int32)), .val .null] [(.int (29791 : Int32))])) (fun t k => XS.iloadN X0.here hx rfl (hb hby own_d26_54) rfl k) ?_
  obtain ⟨fs, hr, hrun, hended, hW, hsame⟩ := X0.leave (v := some (.int (29791 : Int32))) (fun h => by rw [Bd.returns] at h; cases h)
  refine ⟨_, _, own_retI X0 hx Bd.returns (hb hby own_d26_55) hr, hK _ _ ⟨hrun, hended, _, _, rfl, ?_, ⟨_, rfl⟩, hW, hsame.mono (by decide) (by decide)⟩⟩
  show own_Q_hash3 Z b kb h0 n0 _ s₁.heap _
  rw [e0]
  exact ⟨rfl, N0, rfl⟩
theorem own_ef_sini3 (m : MethodId) (x0 : Addr) (x1 : Addr) (x2 : Addr)  : entryFrame m #[(.ref x0), (.ref x1), (.ref x2)] 3 = mkF m 0 #[.val (.ref x0), .val (.ref x1), .val (.ref x2)] [] := by first | (simp [entryFrame, mkF, argsToLocals, Value.category]; done) | rfl
def own_Q_sini3 (Z : State) (a b : Addr) (kb : ClassId) (w_NONE w_DEF w_EMP w_EL w_ELA mir : Addr) (kd ke : ClassId) (h0 : Heap) (n0 : Nat) (v : Option Value) (h : Heap) (L : List Loc) : Prop := v = none ∧ Fr n0 L ∧ Keep h0 h [a] ∧ Exa Z h a "com/example/invariant/invariant/State"
set_option maxRecDepth 65536 in
set_option maxHeartbeats 40000000 in
theorem own_rm_sini3 (l : Launch) (Z : State) (a0 : Array Value) (hw : ∀ d ∈ tables_1, d.before a0 Z = true) (ws : List Jvm.Cond) (a b : Addr) (kb : ClassId) (w_NONE w_DEF w_EMP w_EL w_ELA mir : Addr) (kd ke : ClassId) (h0 : Heap) (n0 : Nat) (O0 : Old Z n0 h0) (HS : own_St Z w_NONE w_DEF w_EMP w_EL w_ELA mir kd ke) (E1 : Exa Z h0 a "com/example/invariant/invariant/State") (G2 : n0 ≤ a) (F3 : Fld Z h0 a "com/example/invariant/invariant/State" "configuration" "Lcom/example/invariant/invariant/Configuration;" .null) (F4 : Fld Z h0 a "com/example/invariant/invariant/State" "values" "[Lcom/example/invariant/invariant/Value;" .null) (F5 : Fld Z h0 a "com/example/invariant/invariant/State" "hash" "I" (.int (0 : Int32))) (A6 : Arv Z h0 b kb (.object "com/example/invariant/invariant/Value") (3 : Int32) [.null, .null, .null] .null) (E7 : Exa Z h0 b "[Lcom/example/invariant/invariant/Value;") :
    MetFree l (⟨"com/example/invariant/invariant/State", "<init>", "(Lcom/example/invariant/invariant/Configuration;[Lcom/example/invariant/invariant/Value;)V"⟩ : MethodName) (head1 (Jvm.Cond.code (⟨"com/example/invariant/invariant/State", "<init>", "(Lcom/example/invariant/invariant/Configuration;[Lcom/example/invariant/invariant/Value;)V"⟩ : MethodName) prog_96_method_1_code 3 none :: ws) ({ frames := 1, cells := 0, slots := 0, locals := 19 } : Room)) (fun ar9 U => ar9 = #[(.ref a), (.ref w_NONE), (.ref b)] ∧ Z.Warmed39 U.vm ∧ U.heap = h0) (fun _ _ _ _ _ => True) (fun _ U o U' => ∃ v L, o = .returned v ∧ own_Q_sini3 Z a b kb w_NONE w_DEF w_EMP w_EL w_ELA mir kd ke h0 n0 v U'.heap L ∧ FrameEnd U o U' L ({ frames := 1, cells := 0, slots := 0, locals := 19 } : Room).cells ({ frames := 1, cells := 0, slots := 0, locals := 19 } : Room).slots) := by
  refine MetFree.of_bodySF (plainFor_of_name own_pn_3) hisR ?_
  intro p e s m args below meth c s₁ Bd hml0 hP hK0
  obtain ⟨rfl, hZ, hh⟩ := hP
  have hx := Bd.exec
  have hby := Bd.bytes
  have hml : c.maxLocals = 3 := hml0
  have hown : s.vm.findClass "com/example/invariant/invariant/State" = some m.cls := findClass_of_methodNamed Bd.named
  have hnm := (name_of_methodNamed Bd.named Bd.method).1
  have X0 : Stand p l e ({ frames := 1, cells := 0, slots := 0, locals := 19 } : Room) s m #[(.ref a), (.ref w_NONE), (.ref b)] below meth c s₁ [] 0 0 := Stand.of_body Bd
  have e0 : s₁.heap = h0 := by rw [← hh, Bd.state]; rfl
  have N0 := Fr.nil n0
  have K0 := Keep.refl h0 [a]
  refine own_open fun K hK => ?_
  refine own_go (B := s₁.setTop (mkF m 0 #[.val (.ref a), .val (.ref w_NONE), .val (.ref b)] [])) (fun t k => castTop (own_ef_sini3 m a w_NONE b) k) ?_
  refine own_go (B := s₁.setTop (mkF m 1 #[.val (.ref a), .val (.ref w_NONE), .val (.ref b)] [(.ref a)])) (fun t k => XS.aloadN X0.here hx rfl (hb hby own_d1_0) rfl rfl k) ?_
  obtain ⟨T128, X128, e128, st128⟩ := initO X0 hx hZ hown (hw _ (List.mem_of_getElem? (i := 31) rfl)) (hw _ (List.mem_of_getElem? (i := 32) rfl)) (hw _ (List.mem_of_getElem? (i := 33) rfl)) e0 (g := (mkF m 1 #[.val (.ref a), .val (.ref w_NONE), .val (.ref b)] [(.ref a)])) rfl (by rw [hml]; rfl) rfl (hb hby own_d1_1) (by decide) (W := 0) (by show 2 * 0 + _ ≤ _; exact Nat.le_of_eq rfl) (by decide)
  refine own_go (B := T128.setTop (mkF m 4 #[.val (.ref a), .val (.ref w_NONE), .val (.ref b)] [])) (fun t k => st128 _ k) ?_
  refine own_go (B := T128.setTop (mkF m 5 #[.val (.ref a), .val (.ref w_NONE), .val (.ref b)] [(.ref a)])) (fun t k => XS.aloadN X128.here hx rfl (hb hby own_d1_4) rfl rfl k) ?_
  refine own_go (B := T128.setTop (mkF m 6 #[.val (.ref a), .val (.ref w_NONE), .val (.ref b)] [(.ref w_NONE), (.ref a)])) (fun t k => XS.aloadN X128.here hx rfl (hb hby own_d1_5) rfl rfl k) ?_
  obtain ⟨T129, h129, X129, e129, W129, st129⟩ := putF X128 hx hZ hown (host := "") (Or.inl (hw _ (List.mem_of_getElem? (i := 34) rfl))) Via.refl e128 F3 E1 (Or.inr ⟨(hw _ (List.mem_of_getElem? (i := 35) rfl)), rfl, hnm⟩) (hw _ (List.mem_of_getElem? (i := 13) rfl)) (ty := (.object "com/example/invariant/invariant/Configuration")) (by decide) rfl rfl (g := (mkF m 6 #[.val (.ref a), .val (.ref w_NONE), .val (.ref b)] [(.ref w_NONE), (.ref a)])) rfl rfl (hb hby own_d1_6)
  have Fw129 := F3.same W129
  have N129 := Fr.snoc X129 N0 G2
  have O129 := O0.wr W129 G2
  have K129 := K0.wr W129 (Or.inl (by simp))
  refine own_go (B := T129.setTop (mkF m 9 #[.val (.ref a), .val (.ref w_NONE), .val (.ref b)] [])) (fun t k => st129 _ k) ?_
  refine own_go (B := T129.setTop (mkF m 10 #[.val (.ref a), .val (.ref w_NONE), .val (.ref b)] [(.ref a)])) (fun t k => XS.aloadN X129.here hx rfl (hb hby own_d1_9) rfl rfl k) ?_
  refine own_go (B := T129.setTop (mkF m 11 #[.val (.ref a), .val (.ref w_NONE), .val (.ref b)] [(.ref b), (.ref a)])) (fun t k => XS.aloadN X129.here hx rfl (hb hby own_d1_10) rfl rfl k) ?_
  have f130 := (F4.other W129 (Or.inr (slot_ne (Or.inr (hw _ (List.mem_of_getElem? (i := 37) rfl))) (Or.inr (hw _ (List.mem_of_getElem? (i := 35) rfl))) (by decide) (t := (.array (.object "com/example/invariant/invariant/Value"))) (t' := (.object "com/example/invariant/invariant/Configuration")) (by decide) (by decide))))
  have f131 := (E1.wr W129)
  obtain ⟨T132, h132, X132, e132, W132, st132⟩ := putF X129 hx hZ hown (host := "") (Or.inl (hw _ (List.mem_of_getElem? (i := 36) rfl))) Via.refl e129 f130 f131 (Or.inr ⟨(hw _ (List.mem_of_getElem? (i := 37) rfl)), rfl, hnm⟩) (hw _ (List.mem_of_getElem? (i := 13) rfl)) (ty := (.array (.object "com/example/invariant/invariant/Value"))) (by decide) rfl rfl (g := (mkF m 11 #[.val (.ref a), .val (.ref w_NONE), .val (.ref b)] [(.ref b), (.ref a)])) rfl rfl (hb hby own_d1_11)
  have Fw132 := f130.same W132
  have N132 := Fr.snoc X132 N129 G2
  have O132 := O129.wr W132 G2
  have K132 := K129.wr W132 (Or.inl (by simp))
  refine own_go (B := T132.setTop (mkF m 14 #[.val (.ref a), .val (.ref w_NONE), .val (.ref b)] [])) (fun t k => st132 _ k) ?_
  refine own_go (B := T132.setTop (mkF m 15 #[.val (.ref a), .val (.ref w_NONE), .val (.ref b)] [(.ref a)])) (fun t k => XS.aloadN X132.here hx rfl (hb hby own_d1_14) rfl rfl k) ?_
  refine own_go (B := T132.setTop (mkF m 17 #[.val (.ref a), .val (.ref w_NONE), .val (.ref b)] [(.int (31 : Int32)), (.ref a)])) (fun t k => XS.bipush X132.here hx rfl (hb hby own_d1_15) k) ?_
  refine own_go (B := T132.setTop (mkF m 18 #[.val (.ref a), .val (.ref w_NONE), .val (.ref b)] [(.ref w_NONE), (.int (31 : Int32)), (.ref a)])) (fun t k => XS.aloadN X132.here hx rfl (hb hby own_d1_17) rfl rfl k) ?_
  obtain ⟨cq133, kq133, q133a, q133b, q133c⟩ := isOf hZ e132 (HS.2.1.ext O132.2)
  obtain ⟨_, _, ⟨T133, L133, k133, n133⟩, -, X133, ⟨Lc133, hQ133, l133, y133, z133⟩, st133⟩ := X132.virtualBack hx (y := (⟨"com/example/invariant/invariant/Configuration", "hashCode", "()I"⟩ : MethodName)) (z := (⟨"com/example/invariant/invariant/Configuration", "hashCode", "()I"⟩ : MethodName)) hown (mvT hZ (hw _ (List.mem_of_getElem? (i := 38) rfl))) (mvT hZ (hw _ (List.mem_of_getElem? (i := 39) rfl))) (notFace_of_selects (args := #[]) (mvT hZ (hw _ (List.mem_of_getElem? (i := 41) rfl)))) (mvT hZ (hw _ (List.mem_of_getElem? (i := 41) rfl))) (mvT hZ (hw _ (List.mem_of_getElem? (i := 40) rfl))) (by decide) (backOf (W := 2) (own_rm_chash l Z a0 hw [] w_NONE (1 : Int32) h132 n0 O132 HS.2.2.1) hZ (hw _ (List.mem_of_getElem? (i := 42) rfl)) (hw _ (List.mem_of_getElem? (i := 1) rfl)) (by decide) (by decide)) q133a q133c (g := (mkF m 18 #[.val (.ref a), .val (.ref w_NONE), .val (.ref b)] [(.ref w_NONE), (.int (31 : Int32)), (.ref a)])) rfl (by rw [hml]; rfl) (Steps.refl _) (argsL := []) (rest := [(.int (31 : Int32)), (.ref a)]) (lenOf own_pd_0 rfl) rfl (by show 2 * 0 + _ ≤ _; exact Nat.le_of_eq rfl) (hb hby own_d1_18) (fun _ _ => ⟨rfl, e132, (by decide : 0 + 0 ≤ _), (by decide : 0 + 0 ≤ _)⟩)
  dsimp only [Pt.U, Pt.locs, Pt.cells, Pt.slots] at X133 l133 y133 z133 st133 hQ133
  subst l133 y133 z133
  obtain ⟨rfl, N133q, eh133⟩ := hQ133
  have N133 := Fr.app N132 N133q
  refine own_go (B := T133.setTop (mkF m 21 #[.val (.ref a), .val (.ref w_NONE), .val (.ref b)] [(.int (1 : Int32)), (.int (31 : Int32)), (.ref a)])) (fun t k => st133.trans k) ?_
  refine own_go (B := T133.setTop (mkF m 22 #[.val (.ref a), .val (.ref w_NONE), .val (.ref b)] [(.int (31 : Int32)), (.ref a)])) (fun t k => XS.imul X133.here hx rfl (hb hby own_d1_21) rfl k) ?_
  refine own_go (B := T133.setTop (mkF m 23 #[.val (.ref a), .val (.ref w_NONE), .val (.ref b)] [(.ref b), (.int (31 : Int32)), (.ref a)])) (fun t k => XS.aloadN X133.here hx rfl (hb hby own_d1_22) rfl rfl k) ?_
  have f134 := ((E7.wr W129).wr W132)
  have f135 := (f131.wr W132)
  have f136 := ((A6.other W129 (ne_exa f134 f135 (by decide))).other W132 (ne_exa f134 f135 (by decide)))
  obtain ⟨_, _, ⟨T137, L137, k137, n137⟩, -, X137, ⟨Lc137, hQ137, l137, y137, z137⟩, st137⟩ := Jvm.LawKit.callS X133 hx (y := (⟨"java/util/Arrays", "hashCode", "([Ljava/lang/Object;)I"⟩ : MethodName)) hown (mvT hZ (hw _ (List.mem_of_getElem? (i := 45) rfl))) (mvT hZ (hw _ (List.mem_of_getElem? (i := 46) rfl))) (mvT hZ (hw _ (List.mem_of_getElem? (i := 47) rfl))) (mvT hZ (hw _ (List.mem_of_getElem? (i := 48) rfl))) (by decide) (backOf (W := 2) (own_rm_hash3 l Z a0 hw [] b kb h132 n0 O132 f136) hZ (hw _ (List.mem_of_getElem? (i := 48) rfl)) (hw _ (List.mem_of_getElem? (i := 47) rfl)) (by decide) (by decide)) (g := (mkF m 23 #[.val (.ref a), .val (.ref w_NONE), .val (.ref b)] [(.ref b), (.int (31 : Int32)), (.ref a)])) rfl (by rw [hml]; rfl) (argsL := [(.ref b)]) (rest := [(.int (31 : Int32)), (.ref a)]) (lenOf own_pd_1 rfl) rfl (by show 2 * 0 + _ ≤ _; exact Nat.le_of_eq rfl) (hb hby own_d1_23) (fun _ _ => ⟨rfl, eh133, (by decide : 0 + 0 ≤ _), (by decide : 0 + 0 ≤ _)⟩)
  dsimp only [Pt.U, Pt.locs, Pt.cells, Pt.slots] at X137 l137 y137 z137 st137 hQ137
  subst l137 y137 z137
  obtain ⟨rfl, N137q, eh137⟩ := hQ137
  have N137 := Fr.app N133 N137q
  refine own_go (B := T137.setTop (mkF m 26 #[.val (.ref a), .val (.ref w_NONE), .val (.ref b)] [(.int (29791 : Int32)), (.int (31 : Int32)), (.ref a)])) (fun t k => st137 _ k) ?_
  refine own_go (B := T137.setTop (mkF m 27 #[.val (.ref a), .val (.ref w_NONE), .val (.ref b)] [(.int (29822 : Int32)), (.ref a)])) (fun t k => XS.iadd X137.here hx rfl (hb hby own_d1_26) rfl k) ?_
  have f138 := ((F5.other W129 (Or.inr (slot_ne (Or.inr (hw _ (List.mem_of_getElem? (i := 50) rfl))) (Or.inr (hw _ (List.mem_of_getElem? (i := 35) rfl))) (by decide) (t := .int) (t' := (.object "com/example/invariant/invariant/Configuration")) (by decide) (by decide)))).other W132 (Or.inr (slot_ne (Or.inr (hw _ (List.mem_of_getElem? (i := 50) rfl))) (Or.inr (hw _ (List.mem_of_getElem? (i := 37) rfl))) (by decide) (t := .int) (t' := (.array (.object "com/example/invariant/invariant/Value"))) (by decide) (by decide))))
  obtain ⟨T139, h139, X139, e139, W139, st139⟩ := putF X137 hx hZ hown (host := "") (Or.inl (hw _ (List.mem_of_getElem? (i := 49) rfl))) Via.refl eh137 f138 f135 (Or.inr ⟨(hw _ (List.mem_of_getElem? (i := 50) rfl)), rfl, hnm⟩) (hw _ (List.mem_of_getElem? (i := 13) rfl)) (ty := .int) (by decide) rfl rfl (g := (mkF m 27 #[.val (.ref a), .val (.ref w_NONE), .val (.ref b)] [(.int (29822 : Int32)), (.ref a)])) rfl rfl (hb hby own_d1_27)
  have Fw139 := f138.same W139
  have N139 := Fr.snoc X139 N137 G2
  have O139 := O132.wr W139 G2
  have K139 := K132.wr W139 (Or.inl (by simp))
  refine own_go (B := T139.setTop (mkF m 30 #[.val (.ref a), .val (.ref w_NONE), .val (.ref b)] [])) (fun t k => st139 _ k) ?_
  obtain ⟨fs, hr, hrun, hended, hW, hsame⟩ := X139.leave (v := none) (fun _ => rfl)
  have f141 := (f135.wr W139)
  refine ⟨_, _, X139.returnOut hx Bd.returns (hb hby own_d1_30) hr, hK _ _ ⟨hrun, hended, _, _, rfl, ?_, ⟨_, rfl⟩, hW, hsame.mono (by decide) (by decide)⟩⟩
  show own_Q_sini3 Z a b kb w_NONE w_DEF w_EMP w_EL w_ELA mir kd ke h0 n0 _ T139.heap _
  rw [e139]
  exact ⟨rfl, N139, K139, f141⟩
theorem own_ef_of3 (m : MethodId) (x0 : Addr) (x1 : Addr)  : entryFrame m #[(.ref x0), (.ref x1)] 2 = mkF m 0 #[.val (.ref x0), .val (.ref x1)] [] := by first | (simp [entryFrame, mkF, argsToLocals, Value.category]; done) | rfl
def own_Q_of3 (Z : State) (b : Addr) (kb : ClassId) (w_NONE w_DEF w_EMP w_EL w_ELA mir : Addr) (kd ke : ClassId) (h0 : Heap) (n0 : Nat) (v : Option Value) (h : Heap) (L : List Loc) : Prop := ∃ r : Addr, v = some (.ref r) ∧ Fr n0 L ∧ Ext h0 h ∧ h0.size ≤ r ∧ Exa Z h r "com/example/invariant/invariant/State"
set_option maxRecDepth 65536 in
set_option maxHeartbeats 40000000 in
theorem own_rm_of3 (l : Launch) (Z : State) (a0 : Array Value) (hw : ∀ d ∈ tables_1, d.before a0 Z = true) (ws : List Jvm.Cond) (b : Addr) (kb : ClassId) (w_NONE w_DEF w_EMP w_EL w_ELA mir : Addr) (kd ke : ClassId) (h0 : Heap) (n0 : Nat) (O0 : Old Z n0 h0) (HS : own_St Z w_NONE w_DEF w_EMP w_EL w_ELA mir kd ke) (A1 : Arv Z h0 b kb (.object "com/example/invariant/invariant/Value") (3 : Int32) [.null, .null, .null] .null) (E2 : Exa Z h0 b "[Lcom/example/invariant/invariant/Value;") :
    MetFree l (⟨"com/example/invariant/invariant/State", "of", "(Lcom/example/invariant/invariant/Configuration;[Lcom/example/invariant/invariant/Value;)Lcom/example/invariant/invariant/State;"⟩ : MethodName) (head1 (Jvm.Cond.code (⟨"com/example/invariant/invariant/State", "of", "(Lcom/example/invariant/invariant/Configuration;[Lcom/example/invariant/invariant/Value;)Lcom/example/invariant/invariant/State;"⟩ : MethodName) prog_96_method_3_code 2 (some (.object "com/example/invariant/invariant/State")) :: ws) ({ frames := 2, cells := 3, slots := 59, locals := 34 } : Room)) (fun ar9 U => ar9 = #[(.ref w_NONE), (.ref b)] ∧ Z.Warmed39 U.vm ∧ U.heap = h0) (fun _ _ _ _ _ => True) (fun _ U o U' => ∃ v L, o = .returned v ∧ own_Q_of3 Z b kb w_NONE w_DEF w_EMP w_EL w_ELA mir kd ke h0 n0 v U'.heap L ∧ ReturnedEndW U o U' L ({ frames := 2, cells := 3, slots := 59, locals := 34 } : Room).cells ({ frames := 2, cells := 3, slots := 59, locals := 34 } : Room).slots) := by
  refine MetFree.of_bodySF (plainFor_of_name own_pn_3) hisR ?_
  intro p e s m args below meth c s₁ Bd hml0 hP hK0
  obtain ⟨rfl, hZ, hh⟩ := hP
  have hx := Bd.exec
  have hby := Bd.bytes
  have hml : c.maxLocals = 2 := hml0
  have hown : s.vm.findClass "com/example/invariant/invariant/State" = some m.cls := findClass_of_methodNamed Bd.named
  have hnm := (name_of_methodNamed Bd.named Bd.method).1
  have X0 : Stand p l e ({ frames := 2, cells := 3, slots := 59, locals := 34 } : Room) (s.setVm s.vm) m #[(.ref w_NONE), (.ref b)] below meth c s₁ [] 0 0 := Stand.of_body Bd
  have e0 : s₁.heap = h0 := by rw [← hh, Bd.state]; rfl
  have N0 := Fr.nil n0
  have K0 := Keep.refl h0 []
  have hS0 : s.Since s.vm h0.size := (State.WarmedH.refl s).since _
  have hk0 : h0.size ≤ h0.size := Nat.le_refl _
  refine own_open fun K hK => ?_
  refine own_go (B := s₁.setTop (mkF m 0 #[.val (.ref w_NONE), .val (.ref b)] [])) (fun t k => castTop (own_ef_of3 m w_NONE b) k) ?_
  obtain ⟨T142, h142, X142, e142, E142, A142, D142, -, st142⟩ := newO X0 hx hZ hown (hw _ (List.mem_of_getElem? (i := 12) rfl)) (hw _ (List.mem_of_getElem? (i := 13) rfl)) (hw _ (List.mem_of_getElem? (i := 5) rfl)) e0 (g := (mkF m 0 #[.val (.ref w_NONE), .val (.ref b)] [])) rfl (hb hby own_d3_0) (by decide) (by decide)
  obtain ⟨b142, g142⟩ : ∃ z, z = h0.size := ⟨_, rfl⟩
  rw [← g142] at A142 D142 st142
  have lt_b_142 := A1.lt
  have g_b142 : n0 ≤ b142 := Nat.le_trans (own_n0 O0) (Nat.le_of_eq g142.symm)
  have O142 := O0.ext E142
  have sz_b142 : h0.size ≤ b142 := Nat.le_trans K0.1 (Nat.le_of_eq g142.symm)
  have hk143 := Nat.le_trans hk0 E142.1
  have K142 := K0.ext E142
  have F142_35 : Fld Z h142 b142 "com/example/invariant/invariant/State" "configuration" "Lcom/example/invariant/invariant/Configuration;" .null := D142 (Or.inr (hw _ (List.mem_of_getElem? (i := 35) rfl))) (ty := (.object "com/example/invariant/invariant/Configuration")) (by decide)
  have F142_37 : Fld Z h142 b142 "com/example/invariant/invariant/State" "values" "[Lcom/example/invariant/invariant/Value;" .null := D142 (Or.inr (hw _ (List.mem_of_getElem? (i := 37) rfl))) (ty := (.array (.object "com/example/invariant/invariant/Value"))) (by decide)
  have F142_50 : Fld Z h142 b142 "com/example/invariant/invariant/State" "hash" "I" (.int (0 : Int32)) := D142 (Or.inr (hw _ (List.mem_of_getElem? (i := 50) rfl))) (ty := .int) (by decide)
  refine own_go (B := T142.setTop (mkF m 3 #[.val (.ref w_NONE), .val (.ref b)] [(.ref b142)])) (fun t k => st142 _ k) ?_
  refine own_go (B := T142.setTop (mkF m 4 #[.val (.ref w_NONE), .val (.ref b)] [(.ref b142), (.ref b142)])) (fun t k => XS.dup X142.here hx rfl (hb hby own_d3_3) rfl rfl k) ?_
  refine own_go (B := T142.setTop (mkF m 5 #[.val (.ref w_NONE), .val (.ref b)] [(.ref w_NONE), (.ref b142), (.ref b142)])) (fun t k => XS.aloadN X142.here hx rfl (hb hby own_d3_4) rfl rfl k) ?_
  obtain ⟨a144, T144, h144, k144, X144, e144, E144, hS144, hkk144, hZ, hown, st144⟩ := ldcS X142 hx hZ hown (hw _ (List.mem_of_getElem? (i := 14) rfl)) (fun d hd => hw d (own_strAtoms d hd)) e142 hS0 hk143 (g := (mkF m 5 #[.val (.ref w_NONE), .val (.ref b)] [(.ref w_NONE), (.ref b142), (.ref b142)])) rfl (hb hby own_d3_5) (n := 52) (by decide) (by decide) (by decide) (by decide)
  have O144 := O142.ext E144
  have hk145 := Nat.le_trans hk143 E144.1
  have K144 := K142.ext E144
  refine own_go (B := T144.setTop (mkF m 7 #[.val (.ref w_NONE), .val (.ref b)] [(.ref a144), (.ref w_NONE), (.ref b142), (.ref b142)])) (fun t k => st144 _ k) ?_
  obtain ⟨_, _, ⟨T146, L146, k146, n146⟩, -, X146, ⟨Lc146, hQ146, l146, y146, z146⟩, st146⟩ := Jvm.LawKit.callS X144 hx (y := (⟨"java/util/Objects", "requireNonNull", "(Ljava/lang/Object;Ljava/lang/String;)Ljava/lang/Object;"⟩ : MethodName)) hown (mvT hZ (hw _ (List.mem_of_getElem? (i := 22) rfl))) (mvT hZ (hw _ (List.mem_of_getElem? (i := 23) rfl))) (mvT hZ (hw _ (List.mem_of_getElem? (i := 24) rfl))) (mvT hZ (hw _ (List.mem_of_getElem? (i := 25) rfl))) (by decide) (backOf (W := 2) (own_rm_rnn2 l Z a0 hw [] w_NONE a144 h144 n0 O144 ) hZ (hw _ (List.mem_of_getElem? (i := 25) rfl)) (hw _ (List.mem_of_getElem? (i := 24) rfl)) (by decide) (by decide)) (g := (mkF m 7 #[.val (.ref w_NONE), .val (.ref b)] [(.ref a144), (.ref w_NONE), (.ref b142), (.ref b142)])) rfl (by rw [hml]; rfl) (argsL := [(.ref w_NONE), (.ref a144)]) (rest := [(.ref b142), (.ref b142)]) (lenOf own_pd_2 rfl) rfl (by show 2 * 0 + _ ≤ _; exact Nat.le_of_eq rfl) (hb hby own_d3_7) (fun _ _ => ⟨rfl, e144, (by decide : 3 + 0 ≤ _), (by decide : 59 + 0 ≤ _)⟩)
  dsimp only [Pt.U, Pt.locs, Pt.cells, Pt.slots] at X146 l146 y146 z146 st146 hQ146
  subst l146 y146 z146
  obtain ⟨rfl, N146q, eh146⟩ := hQ146
  have N146 := Fr.app N0 N146q
  refine own_go (B := T146.setTop (mkF m 10 #[.val (.ref w_NONE), .val (.ref b)] [(.ref w_NONE), (.ref b142), (.ref b142)])) (fun t k => st146 _ k) ?_
  obtain ⟨T147, X147, e147, st147⟩ := castY X146 hx hZ hown (hw _ (List.mem_of_getElem? (i := 26) rfl)) eh146 (Ins.self (HS.2.1.ext O144.2)) (g := (mkF m 10 #[.val (.ref w_NONE), .val (.ref b)] [(.ref w_NONE), (.ref b142), (.ref b142)])) rfl rfl (hb hby own_d3_10)
  refine own_go (B := T147.setTop (mkF m 13 #[.val (.ref w_NONE), .val (.ref b)] [(.ref w_NONE), (.ref b142), (.ref b142)])) (fun t k => st147 _ k) ?_
  refine own_go (B := T147.setTop (mkF m 14 #[.val (.ref w_NONE), .val (.ref b)] [(.ref b), (.ref w_NONE), (.ref b142), (.ref b142)])) (fun t k => XS.aloadN X147.here hx rfl (hb hby own_d3_13) rfl rfl k) ?_
  have f148 := (A142.ext E144)
  have f149 := (F142_35.ext E144)
  have f150 := (F142_37.ext E144)
  have f151 := (F142_50.ext E144)
  have f152 := ((A1.ext E142).ext E144)
  have f153 := ((E2.ext E142).ext E144)
  have lt_b_154 := f152.lt
  have lt_b142_154 := f148.lt
  obtain ⟨_, _, ⟨T155, L155, k155, n155⟩, -, X155, ⟨Lc155, hQ155, l155, y155, z155⟩, st155⟩ := X147.specialBack hx (y := (⟨"com/example/invariant/invariant/State", "<init>", "(Lcom/example/invariant/invariant/Configuration;[Lcom/example/invariant/invariant/Value;)V"⟩ : MethodName)) rfl hown (mvT hZ (hw _ (List.mem_of_getElem? (i := 28) rfl))) (mvT hZ (hw _ (List.mem_of_getElem? (i := 29) rfl))) (mvT hZ (hw _ (List.mem_of_getElem? (i := 30) rfl))) (by decide) (backOf (W := 1) (own_rm_sini3 l Z a0 hw [] b142 b kb w_NONE w_DEF w_EMP w_EL w_ELA mir kd ke h144 n0 O144 HS f148 g_b142 f149 f150 f151 f152 f153) hZ (hw _ (List.mem_of_getElem? (i := 30) rfl)) (hw _ (List.mem_of_getElem? (i := 5) rfl)) (by decide) (by decide)) (g := (mkF m 14 #[.val (.ref w_NONE), .val (.ref b)] [(.ref b), (.ref w_NONE), (.ref b142), (.ref b142)])) rfl (by rw [hml]; rfl) (Steps.refl _) (a := b142) (argsL := [(.ref w_NONE), (.ref b)]) (rest := [(.ref b142)]) (lenOf own_pd_3 rfl) rfl (by show 2 * 0 + _ ≤ _; exact Nat.le_of_eq rfl) (hb hby own_d3_14) (fun _ _ => ⟨rfl, e147, (by decide : 3 + 0 ≤ _), (by decide : 59 + 0 ≤ _)⟩)
  dsimp only [Pt.U, Pt.locs, Pt.cells, Pt.slots] at X155 l155 y155 z155 st155 hQ155
  subst l155 y155 z155
  obtain ⟨rfl, N155q, Kc155, Q155_0⟩ := hQ155
  have O155 := O144.keep Kc155 (allS g_b142 all0)
  have hk156 := Nat.le_trans hkk144 Kc155.1
  have K155 := K144.trans Kc155 (allS (Or.inr sz_b142) all0)
  have N155 := Fr.app N146 N155q
  refine own_go (B := T155.setTop (mkF m 17 #[.val (.ref w_NONE), .val (.ref b)] [(.ref b142)])) (fun t k => st155.trans k) ?_
  obtain ⟨fs, hr, hrun, hended, hREW⟩ := X155.leaveW hS144 (by rw [(rfl : T155.heap = T155.heap)]; exact hk156) (v := some (.ref b142)) (fun h => by rw [Bd.returns] at h; cases h)
  have Ex158 : Ext h0 T155.heap := ⟨K155.1, fun x c q => K155.2.1 x c q nin0⟩
  refine ⟨_, _, own_retA X155 hx Bd.returns rfl rfl (hb hby own_d3_17) hr, hK _ _ ⟨hrun, hended, _, _, rfl, ?_, ⟨_, rfl⟩, hREW.2.1, hREW.2.2.1, hREW.2.2.2.mono (by decide) (by decide)⟩⟩
  show own_Q_of3 Z b kb w_NONE w_DEF w_EMP w_EL w_ELA mir kd ke h0 n0 _ T155.heap _
  exact ⟨b142, rfl, N155, Ex158, sz_b142, Q155_0⟩
theorem own_d2_0 : decode prog_96_method_2_code 0 = .ok (.aload_n 1, 1) := by decide +kernel
theorem own_d2_1 : decode prog_96_method_2_code 1 = .ok (.iload_n 0, 1) := by decide +kernel
theorem own_d2_2 : decode prog_96_method_2_code 2 = .ok (.anewarray 32, 3) := by decide +kernel
theorem own_d2_5 : decode prog_96_method_2_code 5 = .ok (.invokestatic 34, 3) := by decide +kernel
theorem own_pd_4 : parseMethodDescriptor "(Lcom/example/invariant/invariant/Configuration;[Lcom/example/invariant/invariant/Value;)Lcom/example/invariant/invariant/State;" = some ⟨[(.object "com/example/invariant/invariant/Configuration"), (.array (.object "com/example/invariant/invariant/Value"))], some (.object "com/example/invariant/invariant/State")⟩ := by decide +kernel
theorem own_d2_8 : decode prog_96_method_2_code 8 = .ok (.areturn, 1) := by decide +kernel
theorem own_ef_blank (m : MethodId) (x0 : Int32) (x1 : Addr)  : entryFrame m #[(.int x0), (.ref x1)] 2 = mkF m 0 #[.val (.int x0), .val (.ref x1)] [] := by first | (simp [entryFrame, mkF, argsToLocals, Value.category]; done) | rfl
def own_Q_blank (Z : State) (q1 : Int32) (w_NONE w_DEF w_EMP w_EL w_ELA mir : Addr) (kd ke : ClassId) (h0 : Heap) (n0 : Nat) (v : Option Value) (h : Heap) (L : List Loc) : Prop := ∃ r : Addr, v = some (.ref r) ∧ Fr n0 L ∧ Ext h0 h ∧ h0.size ≤ r ∧ Exa Z h r "com/example/invariant/invariant/State"
set_option maxRecDepth 65536 in
set_option maxHeartbeats 40000000 in
theorem own_rm_blank (l : Launch) (Z : State) (a0 : Array Value) (hw : ∀ d ∈ tables_1, d.before a0 Z = true) (ws : List Jvm.Cond) (q1 : Int32) (w_NONE w_DEF w_EMP w_EL w_ELA mir : Addr) (kd ke : ClassId) (h0 : Heap) (n0 : Nat) (O0 : Old Z n0 h0) (HS : own_St Z w_NONE w_DEF w_EMP w_EL w_ELA mir kd ke) (hq : q1 = 0 ∨ q1 = 1 ∨ q1 = 2 ∨ q1 = 3) :
    MetFree l (⟨"com/example/invariant/invariant/State", "blank", "(ILcom/example/invariant/invariant/Configuration;)Lcom/example/invariant/invariant/State;"⟩ : MethodName) (head1 (Jvm.Cond.code (⟨"com/example/invariant/invariant/State", "blank", "(ILcom/example/invariant/invariant/Configuration;)Lcom/example/invariant/invariant/State;"⟩ : MethodName) prog_96_method_2_code 2 (some (.object "com/example/invariant/invariant/State")) :: ws) ({ frames := 3, cells := 4, slots := 62, locals := 47 } : Room)) (fun ar9 U => ar9 = #[(.int q1), (.ref w_NONE)] ∧ Z.Warmed39 U.vm ∧ U.heap = h0) (fun _ _ _ _ _ => True) (fun _ U o U' => ∃ v L, o = .returned v ∧ own_Q_blank Z q1 w_NONE w_DEF w_EMP w_EL w_ELA mir kd ke h0 n0 v U'.heap L ∧ ReturnedEndW U o U' L ({ frames := 3, cells := 4, slots := 62, locals := 47 } : Room).cells ({ frames := 3, cells := 4, slots := 62, locals := 47 } : Room).slots) := by
  refine MetFree.of_bodySF (plainFor_of_name own_pn_3) hisR ?_
  intro p e s m args below meth c s₁ Bd hml0 hP hK0
  obtain ⟨rfl, hZ, hh⟩ := hP
  have hx := Bd.exec
  have hby := Bd.bytes
  have hml : c.maxLocals = 2 := hml0
  have hown : s.vm.findClass "com/example/invariant/invariant/State" = some m.cls := findClass_of_methodNamed Bd.named
  have hnm := (name_of_methodNamed Bd.named Bd.method).1
  have X0 : Stand p l e ({ frames := 3, cells := 4, slots := 62, locals := 47 } : Room) (s.setVm s.vm) m #[(.int q1), (.ref w_NONE)] below meth c s₁ [] 0 0 := Stand.of_body Bd
  have e0 : s₁.heap = h0 := by rw [← hh, Bd.state]; rfl
  have N0 := Fr.nil n0
  have K0 := Keep.refl h0 []
  have hS0 : s.Since s.vm h0.size := (State.WarmedH.refl s).since _
  have hk0 : h0.size ≤ h0.size := Nat.le_refl _
  refine own_open fun K hK => ?_
  refine own_go (B := s₁.setTop (mkF m 0 #[.val (.int q1), .val (.ref w_NONE)] [])) (fun t k => castTop (own_ef_blank m q1 w_NONE) k) ?_
  refine own_go (B := s₁.setTop (mkF m 1 #[.val (.int q1), .val (.ref w_NONE)] [(.ref w_NONE)])) (fun t k => XS.aloadN X0.here hx rfl (hb hby own_d2_0) rfl rfl k) ?_
  refine own_go (B := s₁.setTop (mkF m 2 #[.val (.int q1), .val (.ref w_NONE)] [(.int q1), (.ref w_NONE)])) (fun t k => XS.iloadN X0.here hx rfl (hb hby own_d2_1) rfl k) ?_
  rcases hq with hq | hq | hq | hq
  · rw [hq]
    obtain ⟨T159, h159, k159, X159, e159, E159, A159, Ov159, Ex159, st159⟩ := own_newR X0 hx hZ (A := "[Lcom/example/invariant/invariant/Value;") (by decide) hown (hw _ (List.mem_of_getElem? (i := 7) rfl)) (hw _ (List.mem_of_getElem? (i := 8) rfl)) e0 (g := (mkF m 2 #[.val (.int (0 : Int32)), .val (.ref w_NONE)] [(.int (0 : Int32)), (.ref w_NONE)])) rfl (hb hby own_d2_2) rfl (by decide) (cap := 0) (by decide) (by decide) (by decide) (by decide)
    obtain ⟨b159, g159⟩ : ∃ z, z = h0.size := ⟨_, rfl⟩
    rw [← g159] at A159 Ex159 st159
    have g_b159 : n0 ≤ b159 := Nat.le_trans (own_n0 O0) (Nat.le_of_eq g159.symm)
    have O159 := O0.ext E159
    have sz_b159 : h0.size ≤ b159 := Nat.le_trans K0.1 (Nat.le_of_eq g159.symm)
    have hk160 := Nat.le_trans hk0 E159.1
    have K159 := K0.ext E159
    have V159 := (Arv.new A159 (by decide)).pad (pad_rep [] .null 0)
    refine own_go (B := T159.setTop (mkF m 5 #[.val (.int (0 : Int32)), .val (.ref w_NONE)] [(.ref b159), (.ref w_NONE)])) (fun t k => st159 _ k) ?_
    have lt_b159_161 := Ex159.lt
    obtain ⟨_, _, ⟨T162, L162, k162, n162⟩, -, Xr162, hSr162, hgr162, ⟨Lc162, hQ162, l162, y162, z162⟩, st162⟩ := callSS X159 hx (y := (⟨"com/example/invariant/invariant/State", "of", "(Lcom/example/invariant/invariant/Configuration;[Lcom/example/invariant/invariant/Value;)Lcom/example/invariant/invariant/State;"⟩ : MethodName)) hown (mvT hZ (hw _ (List.mem_of_getElem? (i := 9) rfl))) (mvT hZ (hw _ (List.mem_of_getElem? (i := 10) rfl))) (mvT hZ (hw _ (List.mem_of_getElem? (i := 5) rfl))) (mvT hZ (hw _ (List.mem_of_getElem? (i := 11) rfl))) (by decide) (backOfS (W := 0) (own_rm_of0 l Z a0 hw [] b159 k159 w_NONE w_DEF w_EMP w_EL w_ELA mir kd ke h159 n0 O159 HS V159 Ex159) hZ (hw _ (List.mem_of_getElem? (i := 11) rfl)) (hw _ (List.mem_of_getElem? (i := 5) rfl)) (by decide) (by decide)) (g := (mkF m 5 #[.val (.int (0 : Int32)), .val (.ref w_NONE)] [(.ref b159), (.ref w_NONE)])) rfl (by rw [hml]; rfl) (argsL := [(.ref w_NONE), (.ref b159)]) (rest := []) (lenOf own_pd_4 rfl) rfl (by show 2 * 0 + _ ≤ _; exact Nat.le_of_eq rfl) (hb hby own_d2_5) (fun _ _ => ⟨rfl, e159, (by decide : 1 + 3 ≤ _), (by decide : 0 + 59 ≤ _)⟩)
    dsimp only [Pt.U, Pt.locs, Pt.cells, Pt.slots] at Xr162 l162 y162 z162 st162 hQ162 hSr162 hgr162
    obtain ⟨X162, hS162, hZ, hown⟩ := rebS hS0 (by rw [e159]; exact hk160) Xr162 hSr162 hgr162 hZ hown
    subst l162 y162 z162
    obtain ⟨r_162, rfl, N162q, Kc162, Q162_0, Q162_1⟩ := hQ162
    have E162 := Kc162
    have hk163 := Nat.le_trans hk160 E162.1
    have O162 := O159.ext E162
    have K162 := K159.ext E162
    have N162 := Fr.app N0 N162q
    have hkw162 : T162.heap.size ≤ T162.heap.size := Nat.le_refl _
    refine own_go (B := T162.setTop (mkF m 8 #[.val (.int (0 : Int32)), .val (.ref w_NONE)] [(.ref r_162)])) (fun t k => st162.trans k) ?_
    have g_r_162 : n0 ≤ r_162 := Nat.le_trans (own_n0 O159) Q162_0
    have sz_r_162 : h0.size ≤ r_162 := Nat.le_trans K159.1 Q162_0
    obtain ⟨fs, hr, hrun, hended, hREW⟩ := X162.leaveW hS162 (by rw [(rfl : T162.heap = T162.heap)]; exact hkw162) (v := some (.ref r_162)) (fun h => by rw [Bd.returns] at h; cases h)
    have Ex165 : Ext h0 T162.heap := ⟨K162.1, fun x c q => K162.2.1 x c q nin0⟩
    refine ⟨_, _, own_retA X162 hx Bd.returns rfl rfl (hb hby own_d2_8) hr, hK _ _ ⟨hrun, hended, _, _, rfl, ?_, ⟨_, rfl⟩, hREW.2.1, hREW.2.2.1, hREW.2.2.2.mono (by decide) (by decide)⟩⟩
    show own_Q_blank Z q1 w_NONE w_DEF w_EMP w_EL w_ELA mir kd ke h0 n0 _ T162.heap _
    exact ⟨r_162, rfl, N162, Ex165, sz_r_162, Q162_1⟩
  · rw [hq]
    obtain ⟨T166, h166, k166, X166, e166, E166, A166, Ov166, Ex166, st166⟩ := own_newR X0 hx hZ (A := "[Lcom/example/invariant/invariant/Value;") (by decide) hown (hw _ (List.mem_of_getElem? (i := 7) rfl)) (hw _ (List.mem_of_getElem? (i := 8) rfl)) e0 (g := (mkF m 2 #[.val (.int (1 : Int32)), .val (.ref w_NONE)] [(.int (1 : Int32)), (.ref w_NONE)])) rfl (hb hby own_d2_2) rfl (by decide) (cap := 1) (by decide) (by decide) (by decide) (by decide)
    obtain ⟨b166, g166⟩ : ∃ z, z = h0.size := ⟨_, rfl⟩
    rw [← g166] at A166 Ex166 st166
    have g_b166 : n0 ≤ b166 := Nat.le_trans (own_n0 O0) (Nat.le_of_eq g166.symm)
    have O166 := O0.ext E166
    have sz_b166 : h0.size ≤ b166 := Nat.le_trans K0.1 (Nat.le_of_eq g166.symm)
    have hk167 := Nat.le_trans hk0 E166.1
    have K166 := K0.ext E166
    have V166 := (Arv.new A166 (by decide)).pad (pad_rep [] .null 1)
    refine own_go (B := T166.setTop (mkF m 5 #[.val (.int (1 : Int32)), .val (.ref w_NONE)] [(.ref b166), (.ref w_NONE)])) (fun t k => st166 _ k) ?_
    have lt_b166_168 := Ex166.lt
    obtain ⟨_, _, ⟨T169, L169, k169, n169⟩, -, Xr169, hSr169, hgr169, ⟨Lc169, hQ169, l169, y169, z169⟩, st169⟩ := callSS X166 hx (y := (⟨"com/example/invariant/invariant/State", "of", "(Lcom/example/invariant/invariant/Configuration;[Lcom/example/invariant/invariant/Value;)Lcom/example/invariant/invariant/State;"⟩ : MethodName)) hown (mvT hZ (hw _ (List.mem_of_getElem? (i := 9) rfl))) (mvT hZ (hw _ (List.mem_of_getElem? (i := 10) rfl))) (mvT hZ (hw _ (List.mem_of_getElem? (i := 5) rfl))) (mvT hZ (hw _ (List.mem_of_getElem? (i := 11) rfl))) (by decide) (backOfS (W := 0) (own_rm_of1 l Z a0 hw [] b166 k166 w_NONE w_DEF w_EMP w_EL w_ELA mir kd ke h166 n0 O166 HS V166 Ex166) hZ (hw _ (List.mem_of_getElem? (i := 11) rfl)) (hw _ (List.mem_of_getElem? (i := 5) rfl)) (by decide) (by decide)) (g := (mkF m 5 #[.val (.int (1 : Int32)), .val (.ref w_NONE)] [(.ref b166), (.ref w_NONE)])) rfl (by rw [hml]; rfl) (argsL := [(.ref w_NONE), (.ref b166)]) (rest := []) (lenOf own_pd_4 rfl) rfl (by show 2 * 0 + _ ≤ _; exact Nat.le_of_eq rfl) (hb hby own_d2_5) (fun _ _ => ⟨rfl, e166, (by decide : 1 + 3 ≤ _), (by decide : 1 + 59 ≤ _)⟩)
    dsimp only [Pt.U, Pt.locs, Pt.cells, Pt.slots] at Xr169 l169 y169 z169 st169 hQ169 hSr169 hgr169
    obtain ⟨X169, hS169, hZ, hown⟩ := rebS hS0 (by rw [e166]; exact hk167) Xr169 hSr169 hgr169 hZ hown
    subst l169 y169 z169
    obtain ⟨r_169, rfl, N169q, Kc169, Q169_0, Q169_1⟩ := hQ169
    have E169 := Kc169
    have hk170 := Nat.le_trans hk167 E169.1
    have O169 := O166.ext E169
    have K169 := K166.ext E169
    have N169 := Fr.app N0 N169q
    have hkw169 : T169.heap.size ≤ T169.heap.size := Nat.le_refl _
    refine own_go (B := T169.setTop (mkF m 8 #[.val (.int (1 : Int32)), .val (.ref w_NONE)] [(.ref r_169)])) (fun t k => st169.trans k) ?_
    have g_r_169 : n0 ≤ r_169 := Nat.le_trans (own_n0 O166) Q169_0
    have sz_r_169 : h0.size ≤ r_169 := Nat.le_trans K166.1 Q169_0
    obtain ⟨fs, hr, hrun, hended, hREW⟩ := X169.leaveW hS169 (by rw [(rfl : T169.heap = T169.heap)]; exact hkw169) (v := some (.ref r_169)) (fun h => by rw [Bd.returns] at h; cases h)
    have Ex172 : Ext h0 T169.heap := ⟨K169.1, fun x c q => K169.2.1 x c q nin0⟩
    refine ⟨_, _, own_retA X169 hx Bd.returns rfl rfl (hb hby own_d2_8) hr, hK _ _ ⟨hrun, hended, _, _, rfl, ?_, ⟨_, rfl⟩, hREW.2.1, hREW.2.2.1, hREW.2.2.2.mono (by decide) (by decide)⟩⟩
    show own_Q_blank Z q1 w_NONE w_DEF w_EMP w_EL w_ELA mir kd ke h0 n0 _ T169.heap _
    exact ⟨r_169, rfl, N169, Ex172, sz_r_169, Q169_1⟩
  · rw [hq]
    obtain ⟨T173, h173, k173, X173, e173, E173, A173, Ov173, Ex173, st173⟩ := own_newR X0 hx hZ (A := "[Lcom/example/invariant/invariant/Value;") (by decide) hown (hw _ (List.mem_of_getElem? (i := 7) rfl)) (hw _ (List.mem_of_getElem? (i := 8) rfl)) e0 (g := (mkF m 2 #[.val (.int (2 : Int32)), .val (.ref w_NONE)] [(.int (2 : Int32)), (.ref w_NONE)])) rfl (hb hby own_d2_2) rfl (by decide) (cap := 2) (by decide) (by decide) (by decide) (by decide)
    obtain ⟨b173, g173⟩ : ∃ z, z = h0.size := ⟨_, rfl⟩
    rw [← g173] at A173 Ex173 st173
    have g_b173 : n0 ≤ b173 := Nat.le_trans (own_n0 O0) (Nat.le_of_eq g173.symm)
    have O173 := O0.ext E173
    have sz_b173 : h0.size ≤ b173 := Nat.le_trans K0.1 (Nat.le_of_eq g173.symm)
    have hk174 := Nat.le_trans hk0 E173.1
    have K173 := K0.ext E173
    have V173 := (Arv.new A173 (by decide)).pad (pad_rep [] .null 2)
    refine own_go (B := T173.setTop (mkF m 5 #[.val (.int (2 : Int32)), .val (.ref w_NONE)] [(.ref b173), (.ref w_NONE)])) (fun t k => st173 _ k) ?_
    have lt_b173_175 := Ex173.lt
    obtain ⟨_, _, ⟨T176, L176, k176, n176⟩, -, Xr176, hSr176, hgr176, ⟨Lc176, hQ176, l176, y176, z176⟩, st176⟩ := callSS X173 hx (y := (⟨"com/example/invariant/invariant/State", "of", "(Lcom/example/invariant/invariant/Configuration;[Lcom/example/invariant/invariant/Value;)Lcom/example/invariant/invariant/State;"⟩ : MethodName)) hown (mvT hZ (hw _ (List.mem_of_getElem? (i := 9) rfl))) (mvT hZ (hw _ (List.mem_of_getElem? (i := 10) rfl))) (mvT hZ (hw _ (List.mem_of_getElem? (i := 5) rfl))) (mvT hZ (hw _ (List.mem_of_getElem? (i := 11) rfl))) (by decide) (backOfS (W := 0) (own_rm_of2 l Z a0 hw [] b173 k173 w_NONE w_DEF w_EMP w_EL w_ELA mir kd ke h173 n0 O173 HS V173 Ex173) hZ (hw _ (List.mem_of_getElem? (i := 11) rfl)) (hw _ (List.mem_of_getElem? (i := 5) rfl)) (by decide) (by decide)) (g := (mkF m 5 #[.val (.int (2 : Int32)), .val (.ref w_NONE)] [(.ref b173), (.ref w_NONE)])) rfl (by rw [hml]; rfl) (argsL := [(.ref w_NONE), (.ref b173)]) (rest := []) (lenOf own_pd_4 rfl) rfl (by show 2 * 0 + _ ≤ _; exact Nat.le_of_eq rfl) (hb hby own_d2_5) (fun _ _ => ⟨rfl, e173, (by decide : 1 + 3 ≤ _), (by decide : 2 + 59 ≤ _)⟩)
    dsimp only [Pt.U, Pt.locs, Pt.cells, Pt.slots] at Xr176 l176 y176 z176 st176 hQ176 hSr176 hgr176
    obtain ⟨X176, hS176, hZ, hown⟩ := rebS hS0 (by rw [e173]; exact hk174) Xr176 hSr176 hgr176 hZ hown
    subst l176 y176 z176
    obtain ⟨r_176, rfl, N176q, Kc176, Q176_0, Q176_1⟩ := hQ176
    have E176 := Kc176
    have hk177 := Nat.le_trans hk174 E176.1
    have O176 := O173.ext E176
    have K176 := K173.ext E176
    have N176 := Fr.app N0 N176q
    have hkw176 : T176.heap.size ≤ T176.heap.size := Nat.le_refl _
    refine own_go (B := T176.setTop (mkF m 8 #[.val (.int (2 : Int32)), .val (.ref w_NONE)] [(.ref r_176)])) (fun t k => st176.trans k) ?_
    have g_r_176 : n0 ≤ r_176 := Nat.le_trans (own_n0 O173) Q176_0
    have sz_r_176 : h0.size ≤ r_176 := Nat.le_trans K173.1 Q176_0
    obtain ⟨fs, hr, hrun, hended, hREW⟩ := X176.leaveW hS176 (by rw [(rfl : T176.heap = T176.heap)]; exact hkw176) (v := some (.ref r_176)) (fun h => by rw [Bd.returns] at h; cases h)
    have Ex179 : Ext h0 T176.heap := ⟨K176.1, fun x c q => K176.2.1 x c q nin0⟩
    refine ⟨_, _, own_retA X176 hx Bd.returns rfl rfl (hb hby own_d2_8) hr, hK _ _ ⟨hrun, hended, _, _, rfl, ?_, ⟨_, rfl⟩, hREW.2.1, hREW.2.2.1, hREW.2.2.2.mono (by decide) (by decide)⟩⟩
    show own_Q_blank Z q1 w_NONE w_DEF w_EMP w_EL w_ELA mir kd ke h0 n0 _ T176.heap _
    exact ⟨r_176, rfl, N176, Ex179, sz_r_176, Q176_1⟩
  · rw [hq]
    obtain ⟨T180, h180, k180, X180, e180, E180, A180, Ov180, Ex180, st180⟩ := own_newR X0 hx hZ (A := "[Lcom/example/invariant/invariant/Value;") (by decide) hown (hw _ (List.mem_of_getElem? (i := 7) rfl)) (hw _ (List.mem_of_getElem? (i := 8) rfl)) e0 (g := (mkF m 2 #[.val (.int (3 : Int32)), .val (.ref w_NONE)] [(.int (3 : Int32)), (.ref w_NONE)])) rfl (hb hby own_d2_2) rfl (by decide) (cap := 3) (by decide) (by decide) (by decide) (by decide)
    obtain ⟨b180, g180⟩ : ∃ z, z = h0.size := ⟨_, rfl⟩
    rw [← g180] at A180 Ex180 st180
    have g_b180 : n0 ≤ b180 := Nat.le_trans (own_n0 O0) (Nat.le_of_eq g180.symm)
    have O180 := O0.ext E180
    have sz_b180 : h0.size ≤ b180 := Nat.le_trans K0.1 (Nat.le_of_eq g180.symm)
    have hk181 := Nat.le_trans hk0 E180.1
    have K180 := K0.ext E180
    have V180 := (Arv.new A180 (by decide)).pad (pad_rep [] .null 3)
    refine own_go (B := T180.setTop (mkF m 5 #[.val (.int (3 : Int32)), .val (.ref w_NONE)] [(.ref b180), (.ref w_NONE)])) (fun t k => st180 _ k) ?_
    have lt_b180_182 := Ex180.lt
    obtain ⟨_, _, ⟨T183, L183, k183, n183⟩, -, Xr183, hSr183, hgr183, ⟨Lc183, hQ183, l183, y183, z183⟩, st183⟩ := callSS X180 hx (y := (⟨"com/example/invariant/invariant/State", "of", "(Lcom/example/invariant/invariant/Configuration;[Lcom/example/invariant/invariant/Value;)Lcom/example/invariant/invariant/State;"⟩ : MethodName)) hown (mvT hZ (hw _ (List.mem_of_getElem? (i := 9) rfl))) (mvT hZ (hw _ (List.mem_of_getElem? (i := 10) rfl))) (mvT hZ (hw _ (List.mem_of_getElem? (i := 5) rfl))) (mvT hZ (hw _ (List.mem_of_getElem? (i := 11) rfl))) (by decide) (backOfS (W := 0) (own_rm_of3 l Z a0 hw [] b180 k180 w_NONE w_DEF w_EMP w_EL w_ELA mir kd ke h180 n0 O180 HS V180 Ex180) hZ (hw _ (List.mem_of_getElem? (i := 11) rfl)) (hw _ (List.mem_of_getElem? (i := 5) rfl)) (by decide) (by decide)) (g := (mkF m 5 #[.val (.int (3 : Int32)), .val (.ref w_NONE)] [(.ref b180), (.ref w_NONE)])) rfl (by rw [hml]; rfl) (argsL := [(.ref w_NONE), (.ref b180)]) (rest := []) (lenOf own_pd_4 rfl) rfl (by show 2 * 0 + _ ≤ _; exact Nat.le_of_eq rfl) (hb hby own_d2_5) (fun _ _ => ⟨rfl, e180, (by decide : 1 + 3 ≤ _), (by decide : 3 + 59 ≤ _)⟩)
    dsimp only [Pt.U, Pt.locs, Pt.cells, Pt.slots] at Xr183 l183 y183 z183 st183 hQ183 hSr183 hgr183
    obtain ⟨X183, hS183, hZ, hown⟩ := rebS hS0 (by rw [e180]; exact hk181) Xr183 hSr183 hgr183 hZ hown
    subst l183 y183 z183
    obtain ⟨r_183, rfl, N183q, Kc183, Q183_0, Q183_1⟩ := hQ183
    have E183 := Kc183
    have hk184 := Nat.le_trans hk181 E183.1
    have O183 := O180.ext E183
    have K183 := K180.ext E183
    have N183 := Fr.app N0 N183q
    have hkw183 : T183.heap.size ≤ T183.heap.size := Nat.le_refl _
    refine own_go (B := T183.setTop (mkF m 8 #[.val (.int (3 : Int32)), .val (.ref w_NONE)] [(.ref r_183)])) (fun t k => st183.trans k) ?_
    have g_r_183 : n0 ≤ r_183 := Nat.le_trans (own_n0 O180) Q183_0
    have sz_r_183 : h0.size ≤ r_183 := Nat.le_trans K180.1 Q183_0
    obtain ⟨fs, hr, hrun, hended, hREW⟩ := X183.leaveW hS183 (by rw [(rfl : T183.heap = T183.heap)]; exact hkw183) (v := some (.ref r_183)) (fun h => by rw [Bd.returns] at h; cases h)
    have Ex186 : Ext h0 T183.heap := ⟨K183.1, fun x c q => K183.2.1 x c q nin0⟩
    refine ⟨_, _, own_retA X183 hx Bd.returns rfl rfl (hb hby own_d2_8) hr, hK _ _ ⟨hrun, hended, _, _, rfl, ?_, ⟨_, rfl⟩, hREW.2.1, hREW.2.2.1, hREW.2.2.2.mono (by decide) (by decide)⟩⟩
    show own_Q_blank Z q1 w_NONE w_DEF w_EMP w_EL w_ELA mir kd ke h0 n0 _ T183.heap _
    exact ⟨r_183, rfl, N183, Ex186, sz_r_183, Q183_1⟩
theorem own_d14_0 : decode jdk_22_method_1_code 0 = .ok (.aload_n 0, 1) := by decide +kernel
theorem own_d14_1 : decode jdk_22_method_1_code 1 = .ok (.invokespecial 1, 3) := by decide +kernel
theorem own_d14_4 : decode jdk_22_method_1_code 4 = .ok (.return_, 1) := by decide +kernel
theorem own_pn_4 : plainName "java/util/AbstractCollection" = true := by first | (simp [plainName, overriddenIn]; done) | decide +kernel
theorem own_ef_abc (m : MethodId) (x0 : Addr)  : entryFrame m #[(.ref x0)] 1 = mkF m 0 #[.val (.ref x0)] [] := by first | (simp [entryFrame, mkF, argsToLocals, Value.category]; done) | rfl
def own_Q_abc (Z : State) (a : Addr) (h0 : Heap) (n0 : Nat) (v : Option Value) (h : Heap) (L : List Loc) : Prop := v = none ∧ Fr n0 L ∧ h = h0
set_option maxRecDepth 65536 in
set_option maxHeartbeats 40000000 in
theorem own_rm_abc (l : Launch) (Z : State) (a0 : Array Value) (hw : ∀ d ∈ tables_1, d.before a0 Z = true) (ws : List Jvm.Cond) (a : Addr) (h0 : Heap) (n0 : Nat) (O0 : Old Z n0 h0) :
    MetFree l (⟨"java/util/AbstractCollection", "<init>", "()V"⟩ : MethodName) (head1 (Jvm.Cond.code (⟨"java/util/AbstractCollection", "<init>", "()V"⟩ : MethodName) jdk_22_method_1_code 1 none :: ws) ({ frames := 1, cells := 0, slots := 0, locals := 12 } : Room)) (fun ar9 U => ar9 = #[(.ref a)] ∧ Z.Warmed39 U.vm ∧ U.heap = h0) (fun _ _ _ _ _ => True) (fun _ U o U' => ∃ v L, o = .returned v ∧ own_Q_abc Z a h0 n0 v U'.heap L ∧ FrameEnd U o U' L ({ frames := 1, cells := 0, slots := 0, locals := 12 } : Room).cells ({ frames := 1, cells := 0, slots := 0, locals := 12 } : Room).slots) := by
  refine MetFree.of_bodySF (plainFor_of_name own_pn_4) hisR ?_
  intro p e s m args below meth c s₁ Bd hml0 hP hK0
  obtain ⟨rfl, hZ, hh⟩ := hP
  have hx := Bd.exec
  have hby := Bd.bytes
  have hml : c.maxLocals = 1 := hml0
  have hown : s.vm.findClass "java/util/AbstractCollection" = some m.cls := findClass_of_methodNamed Bd.named
  have hnm := (name_of_methodNamed Bd.named Bd.method).1
  have X0 : Stand p l e ({ frames := 1, cells := 0, slots := 0, locals := 12 } : Room) s m #[(.ref a)] below meth c s₁ [] 0 0 := Stand.of_body Bd
  have e0 : s₁.heap = h0 := by rw [← hh, Bd.state]; rfl
  have N0 := Fr.nil n0
  refine own_open fun K hK => ?_
  refine own_go (B := s₁.setTop (mkF m 0 #[.val (.ref a)] [])) (fun t k => castTop (own_ef_abc m a) k) ?_
  refine own_go (B := s₁.setTop (mkF m 1 #[.val (.ref a)] [(.ref a)])) (fun t k => XS.aloadN X0.here hx rfl (hb hby own_d14_0) rfl rfl k) ?_
  obtain ⟨T187, X187, e187, st187⟩ := initO X0 hx hZ hown (hw _ (List.mem_of_getElem? (i := 69) rfl)) (hw _ (List.mem_of_getElem? (i := 32) rfl)) (hw _ (List.mem_of_getElem? (i := 33) rfl)) e0 (g := (mkF m 1 #[.val (.ref a)] [(.ref a)])) rfl (by rw [hml]; rfl) rfl (hb hby own_d14_1) (by decide) (W := 0) (by show 2 * 0 + _ ≤ _; exact Nat.le_of_eq rfl) (by decide)
  refine own_go (B := T187.setTop (mkF m 4 #[.val (.ref a)] [])) (fun t k => st187 _ k) ?_
  obtain ⟨fs, hr, hrun, hended, hW, hsame⟩ := X187.leave (v := none) (fun _ => rfl)
  refine ⟨_, _, X187.returnOut hx Bd.returns (hb hby own_d14_4) hr, hK _ _ ⟨hrun, hended, _, _, rfl, ?_, ⟨_, rfl⟩, hW, hsame.mono (by decide) (by decide)⟩⟩
  show own_Q_abc Z a h0 n0 _ T187.heap _
  rw [e187]
  exact ⟨rfl, N0, rfl⟩
theorem own_d15_0 : decode jdk_39_method_1_code 0 = .ok (.aload_n 0, 1) := by decide +kernel
theorem own_d15_1 : decode jdk_39_method_1_code 1 = .ok (.invokespecial 1, 3) := by decide +kernel
theorem own_pd_5 : parseMethodDescriptor "()V" = some ⟨[], none⟩ := by decide +kernel
theorem own_d15_4 : decode jdk_39_method_1_code 4 = .ok (.aload_n 0, 1) := by decide +kernel
theorem own_d15_5 : decode jdk_39_method_1_code 5 = .ok (.iconst 0, 1) := by decide +kernel
theorem own_d15_6 : decode jdk_39_method_1_code 6 = .ok (.putfield 7, 3) := by decide +kernel
theorem own_d15_9 : decode jdk_39_method_1_code 9 = .ok (.return_, 1) := by decide +kernel
theorem own_pn_5 : plainName "java/util/AbstractList" = true := by first | (simp [plainName, overriddenIn]; done) | decide +kernel
theorem own_ef_abl (m : MethodId) (x0 : Addr)  : entryFrame m #[(.ref x0)] 1 = mkF m 0 #[.val (.ref x0)] [] := by first | (simp [entryFrame, mkF, argsToLocals, Value.category]; done) | rfl
def own_Q_abl (Z : State) (a : Addr) (h0 : Heap) (n0 : Nat) (v : Option Value) (h : Heap) (L : List Loc) : Prop := v = none ∧ Fr n0 L ∧ Keep h0 h [a] ∧ Exa Z h a "java/util/ArrayList" ∧ Fld Z h a "java/util/AbstractList" "modCount" "I" (.int (0 : Int32)) ∧ Fld Z h a "java/util/ArrayList" "elementData" "[Ljava/lang/Object;" .null ∧ Fld Z h a "java/util/ArrayList" "size" "I" (.int (0 : Int32))
set_option maxRecDepth 65536 in
set_option maxHeartbeats 40000000 in
theorem own_rm_abl (l : Launch) (Z : State) (a0 : Array Value) (hw : ∀ d ∈ tables_1, d.before a0 Z = true) (ws : List Jvm.Cond) (a : Addr) (h0 : Heap) (n0 : Nat) (O0 : Old Z n0 h0) (E0 : Exa Z h0 a "java/util/ArrayList") (F1 : Fld Z h0 a "java/util/AbstractList" "modCount" "I" (.int (0 : Int32))) (F2 : Fld Z h0 a "java/util/ArrayList" "elementData" "[Ljava/lang/Object;" .null) (F3 : Fld Z h0 a "java/util/ArrayList" "size" "I" (.int (0 : Int32))) (G4 : n0 ≤ a) :
    MetFree l (⟨"java/util/AbstractList", "<init>", "()V"⟩ : MethodName) (head1 (Jvm.Cond.code (⟨"java/util/AbstractList", "<init>", "()V"⟩ : MethodName) jdk_39_method_1_code 1 none :: ws) ({ frames := 2, cells := 0, slots := 0, locals := 24 } : Room)) (fun ar9 U => ar9 = #[(.ref a)] ∧ Z.Warmed39 U.vm ∧ U.heap = h0) (fun _ _ _ _ _ => True) (fun _ U o U' => ∃ v L, o = .returned v ∧ own_Q_abl Z a h0 n0 v U'.heap L ∧ FrameEnd U o U' L ({ frames := 2, cells := 0, slots := 0, locals := 24 } : Room).cells ({ frames := 2, cells := 0, slots := 0, locals := 24 } : Room).slots) := by
  refine MetFree.of_bodySF (plainFor_of_name own_pn_5) hisR ?_
  intro p e s m args below meth c s₁ Bd hml0 hP hK0
  obtain ⟨rfl, hZ, hh⟩ := hP
  have hx := Bd.exec
  have hby := Bd.bytes
  have hml : c.maxLocals = 1 := hml0
  have hown : s.vm.findClass "java/util/AbstractList" = some m.cls := findClass_of_methodNamed Bd.named
  have hnm := (name_of_methodNamed Bd.named Bd.method).1
  have X0 : Stand p l e ({ frames := 2, cells := 0, slots := 0, locals := 24 } : Room) s m #[(.ref a)] below meth c s₁ [] 0 0 := Stand.of_body Bd
  have e0 : s₁.heap = h0 := by rw [← hh, Bd.state]; rfl
  have N0 := Fr.nil n0
  have K0 := Keep.refl h0 [a]
  refine own_open fun K hK => ?_
  refine own_go (B := s₁.setTop (mkF m 0 #[.val (.ref a)] [])) (fun t k => castTop (own_ef_abl m a) k) ?_
  refine own_go (B := s₁.setTop (mkF m 1 #[.val (.ref a)] [(.ref a)])) (fun t k => XS.aloadN X0.here hx rfl (hb hby own_d15_0) rfl rfl k) ?_
  obtain ⟨_, _, ⟨T189, L189, k189, n189⟩, -, X189, ⟨Lc189, hQ189, l189, y189, z189⟩, st189⟩ := X0.specialBack hx (y := (⟨"java/util/AbstractCollection", "<init>", "()V"⟩ : MethodName)) rfl hown (mvT hZ (hw _ (List.mem_of_getElem? (i := 63) rfl))) (mvT hZ (hw _ (List.mem_of_getElem? (i := 64) rfl))) (mvT hZ (hw _ (List.mem_of_getElem? (i := 68) rfl))) (by decide) (backOf (W := 0) (own_rm_abc l Z a0 hw [] a h0 n0 O0 ) hZ (hw _ (List.mem_of_getElem? (i := 68) rfl)) (hw _ (List.mem_of_getElem? (i := 67) rfl)) (by decide) (by decide)) (g := (mkF m 1 #[.val (.ref a)] [(.ref a)])) rfl (by rw [hml]; rfl) (Steps.refl _) (a := a) (argsL := []) (rest := []) (lenOf own_pd_5 rfl) rfl (by show 2 * 0 + _ ≤ _; exact Nat.le_of_eq rfl) (hb hby own_d15_1) (fun _ _ => ⟨rfl, e0, (by decide : 0 + 0 ≤ _), (by decide : 0 + 0 ≤ _)⟩)
  dsimp only [Pt.U, Pt.locs, Pt.cells, Pt.slots] at X189 l189 y189 z189 st189 hQ189
  subst l189 y189 z189
  obtain ⟨rfl, N189q, eh189⟩ := hQ189
  have N189 := Fr.app N0 N189q
  refine own_go (B := T189.setTop (mkF m 4 #[.val (.ref a)] [])) (fun t k => st189.trans k) ?_
  refine own_go (B := T189.setTop (mkF m 5 #[.val (.ref a)] [(.ref a)])) (fun t k => XS.aloadN X189.here hx rfl (hb hby own_d15_4) rfl rfl k) ?_
  refine own_go (B := T189.setTop (mkF m 6 #[.val (.ref a)] [(.int (0 : Int32)), (.ref a)])) (fun t k => XS.iconst X189.here hx rfl (hb hby own_d15_5) k) ?_
  obtain ⟨T190, h190, X190, e190, W190, st190⟩ := putF X189 hx hZ hown (host := "") (Or.inl (hw _ (List.mem_of_getElem? (i := 70) rfl))) Via.refl eh189 F1 E0 (Or.inl (hw _ (List.mem_of_getElem? (i := 71) rfl))) (hw _ (List.mem_of_getElem? (i := 52) rfl)) (ty := .int) (by decide) rfl rfl (g := (mkF m 6 #[.val (.ref a)] [(.int (0 : Int32)), (.ref a)])) rfl rfl (hb hby own_d15_6)
  have Fw190 := F1.same W190
  have N190 := Fr.snoc X190 N189 G4
  have O190 := O0.wr W190 G4
  have K190 := K0.wr W190 (Or.inl (by simp))
  refine own_go (B := T190.setTop (mkF m 9 #[.val (.ref a)] [])) (fun t k => st190 _ k) ?_
  obtain ⟨fs, hr, hrun, hended, hW, hsame⟩ := X190.leave (v := none) (fun _ => rfl)
  have f192 := (E0.wr W190)
  have f193 := (F2.other W190 (Or.inr (slot_ne (Or.inl (hw _ (List.mem_of_getElem? (i := 74) rfl))) (Or.inl (hw _ (List.mem_of_getElem? (i := 71) rfl))) (by decide) (t := (.array (.object "java/lang/Object"))) (t' := .int) (by decide) (by decide))))
  have f194 := (F3.other W190 (Or.inr (slot_ne (Or.inl (hw _ (List.mem_of_getElem? (i := 83) rfl))) (Or.inl (hw _ (List.mem_of_getElem? (i := 71) rfl))) (by decide) (t := .int) (t' := .int) (by decide) (by decide))))
  refine ⟨_, _, X190.returnOut hx Bd.returns (hb hby own_d15_9) hr, hK _ _ ⟨hrun, hended, _, _, rfl, ?_, ⟨_, rfl⟩, hW, hsame.mono (by decide) (by decide)⟩⟩
  show own_Q_abl Z a h0 n0 _ T190.heap _
  rw [e190]
  exact ⟨rfl, N190, K190, f192, Fw190, f193, f194⟩
theorem own_d16_0 : decode jdk_38_method_2_code 0 = .ok (.aload_n 0, 1) := by decide +kernel
theorem own_d16_1 : decode jdk_38_method_2_code 1 = .ok (.invokespecial 1, 3) := by decide +kernel
theorem own_d16_4 : decode jdk_38_method_2_code 4 = .ok (.aload_n 0, 1) := by decide +kernel
theorem own_d16_5 : decode jdk_38_method_2_code 5 = .ok (.getstatic 39, 3) := by decide +kernel
theorem own_d16_8 : decode jdk_38_method_2_code 8 = .ok (.putfield 9, 3) := by decide +kernel
theorem own_d16_11 : decode jdk_38_method_2_code 11 = .ok (.return_, 1) := by decide +kernel
theorem own_pn_6 : plainName "java/util/ArrayList" = true := by first | (simp [plainName, overriddenIn]; done) | decide +kernel
theorem own_ef_al (m : MethodId) (x0 : Addr)  : entryFrame m #[(.ref x0)] 1 = mkF m 0 #[.val (.ref x0)] [] := by first | (simp [entryFrame, mkF, argsToLocals, Value.category]; done) | rfl
def own_Q_al (Z : State) (a : Addr) (w_NONE w_DEF w_EMP w_EL w_ELA mir : Addr) (kd ke : ClassId) (h0 : Heap) (n0 : Nat) (v : Option Value) (h : Heap) (L : List Loc) : Prop := v = none ∧ Fr n0 L ∧ Keep h0 h [a] ∧ Exa Z h a "java/util/ArrayList" ∧ Fld Z h a "java/util/AbstractList" "modCount" "I" (.int (0 : Int32)) ∧ Fld Z h a "java/util/ArrayList" "elementData" "[Ljava/lang/Object;" (.ref w_DEF) ∧ Fld Z h a "java/util/ArrayList" "size" "I" (.int (0 : Int32))
set_option maxRecDepth 65536 in
set_option maxHeartbeats 40000000 in
theorem own_rm_al (l : Launch) (Z : State) (a0 : Array Value) (hw : ∀ d ∈ tables_1, d.before a0 Z = true) (ws : List Jvm.Cond) (a : Addr) (w_NONE w_DEF w_EMP w_EL w_ELA mir : Addr) (kd ke : ClassId) (h0 : Heap) (n0 : Nat) (O0 : Old Z n0 h0) (HS : own_St Z w_NONE w_DEF w_EMP w_EL w_ELA mir kd ke) (E1 : Exa Z h0 a "java/util/ArrayList") (F2 : Fld Z h0 a "java/util/AbstractList" "modCount" "I" (.int (0 : Int32))) (F3 : Fld Z h0 a "java/util/ArrayList" "elementData" "[Ljava/lang/Object;" .null) (F4 : Fld Z h0 a "java/util/ArrayList" "size" "I" (.int (0 : Int32))) (G5 : n0 ≤ a) :
    MetFree l (⟨"java/util/ArrayList", "<init>", "()V"⟩ : MethodName) (head1 (Jvm.Cond.code (⟨"java/util/ArrayList", "<init>", "()V"⟩ : MethodName) jdk_38_method_2_code 1 none :: ws) ({ frames := 3, cells := 0, slots := 0, locals := 36 } : Room)) (fun ar9 U => ar9 = #[(.ref a)] ∧ Z.Warmed39 U.vm ∧ U.heap = h0) (fun _ _ _ _ _ => True) (fun _ U o U' => ∃ v L, o = .returned v ∧ own_Q_al Z a w_NONE w_DEF w_EMP w_EL w_ELA mir kd ke h0 n0 v U'.heap L ∧ FrameEnd U o U' L ({ frames := 3, cells := 0, slots := 0, locals := 36 } : Room).cells ({ frames := 3, cells := 0, slots := 0, locals := 36 } : Room).slots) := by
  refine MetFree.of_bodySF (plainFor_of_name own_pn_6) hisR ?_
  intro p e s m args below meth c s₁ Bd hml0 hP hK0
  obtain ⟨rfl, hZ, hh⟩ := hP
  have hx := Bd.exec
  have hby := Bd.bytes
  have hml : c.maxLocals = 1 := hml0
  have hown : s.vm.findClass "java/util/ArrayList" = some m.cls := findClass_of_methodNamed Bd.named
  have hnm := (name_of_methodNamed Bd.named Bd.method).1
  have X0 : Stand p l e ({ frames := 3, cells := 0, slots := 0, locals := 36 } : Room) s m #[(.ref a)] below meth c s₁ [] 0 0 := Stand.of_body Bd
  have e0 : s₁.heap = h0 := by rw [← hh, Bd.state]; rfl
  have N0 := Fr.nil n0
  have K0 := Keep.refl h0 [a]
  refine own_open fun K hK => ?_
  refine own_go (B := s₁.setTop (mkF m 0 #[.val (.ref a)] [])) (fun t k => castTop (own_ef_al m a) k) ?_
  refine own_go (B := s₁.setTop (mkF m 1 #[.val (.ref a)] [(.ref a)])) (fun t k => XS.aloadN X0.here hx rfl (hb hby own_d16_0) rfl rfl k) ?_
  have lt_a_195 := E1.lt
  obtain ⟨_, _, ⟨T196, L196, k196, n196⟩, -, X196, ⟨Lc196, hQ196, l196, y196, z196⟩, st196⟩ := X0.specialBack hx (y := (⟨"java/util/AbstractList", "<init>", "()V"⟩ : MethodName)) rfl hown (mvT hZ (hw _ (List.mem_of_getElem? (i := 57) rfl))) (mvT hZ (hw _ (List.mem_of_getElem? (i := 58) rfl))) (mvT hZ (hw _ (List.mem_of_getElem? (i := 62) rfl))) (by decide) (backOf (W := 0) (own_rm_abl l Z a0 hw [] a h0 n0 O0 E1 F2 F3 F4 G5) hZ (hw _ (List.mem_of_getElem? (i := 62) rfl)) (hw _ (List.mem_of_getElem? (i := 61) rfl)) (by decide) (by decide)) (g := (mkF m 1 #[.val (.ref a)] [(.ref a)])) rfl (by rw [hml]; rfl) (Steps.refl _) (a := a) (argsL := []) (rest := []) (lenOf own_pd_5 rfl) rfl (by show 2 * 0 + _ ≤ _; exact Nat.le_of_eq rfl) (hb hby own_d16_1) (fun _ _ => ⟨rfl, e0, (by decide : 0 + 0 ≤ _), (by decide : 0 + 0 ≤ _)⟩)
  dsimp only [Pt.U, Pt.locs, Pt.cells, Pt.slots] at X196 l196 y196 z196 st196 hQ196
  subst l196 y196 z196
  obtain ⟨rfl, N196q, Kc196, Q196_0, Q196_1, Q196_2, Q196_3⟩ := hQ196
  have O196 := O0.keep Kc196 (allS G5 all0)
  have K196 := K0.trans Kc196 (allS (Or.inl (by simp)) all0)
  have N196 := Fr.app N0 N196q
  refine own_go (B := T196.setTop (mkF m 4 #[.val (.ref a)] [])) (fun t k => st196.trans k) ?_
  refine own_go (B := T196.setTop (mkF m 5 #[.val (.ref a)] [(.ref a)])) (fun t k => XS.aloadN X196.here hx rfl (hb hby own_d16_4) rfl rfl k) ?_
  obtain ⟨T197, X197, e197, st197⟩ := getS2 X196 hx hZ hown (host := "") (Or.inl (hw _ (List.mem_of_getElem? (i := 72) rfl))) Via.refl (rfl : T196.heap = T196.heap) (HS.2.2.2.1.ext O196.2) (g := (mkF m 5 #[.val (.ref a)] [(.ref a)])) rfl (hb hby own_d16_5)
  refine own_go (B := T197.setTop (mkF m 8 #[.val (.ref a)] [(.ref w_DEF), (.ref a)])) (fun t k => st197 _ k) ?_
  obtain ⟨T198, h198, X198, e198, W198, st198⟩ := putF X197 hx hZ hown (host := "") (Or.inl (hw _ (List.mem_of_getElem? (i := 73) rfl))) Via.refl e197 Q196_2 Q196_0 (Or.inl (hw _ (List.mem_of_getElem? (i := 74) rfl))) (hw _ (List.mem_of_getElem? (i := 52) rfl)) (ty := (.array (.object "java/lang/Object"))) (by decide) rfl rfl (g := (mkF m 8 #[.val (.ref a)] [(.ref w_DEF), (.ref a)])) rfl rfl (hb hby own_d16_8)
  have Fw198 := Q196_2.same W198
  have N198 := Fr.snoc X198 N196 G5
  have O198 := O196.wr W198 G5
  have K198 := K196.wr W198 (Or.inl (by simp))
  refine own_go (B := T198.setTop (mkF m 11 #[.val (.ref a)] [])) (fun t k => st198 _ k) ?_
  obtain ⟨fs, hr, hrun, hended, hW, hsame⟩ := X198.leave (v := none) (fun _ => rfl)
  have f200 := (Q196_0.wr W198)
  have f201 := (Q196_1.other W198 (Or.inr (slot_ne (Or.inl (hw _ (List.mem_of_getElem? (i := 71) rfl))) (Or.inl (hw _ (List.mem_of_getElem? (i := 74) rfl))) (by decide) (t := .int) (t' := (.array (.object "java/lang/Object"))) (by decide) (by decide))))
  have f202 := (Q196_3.other W198 (Or.inr (slot_ne (Or.inl (hw _ (List.mem_of_getElem? (i := 83) rfl))) (Or.inl (hw _ (List.mem_of_getElem? (i := 74) rfl))) (by decide) (t := .int) (t' := (.array (.object "java/lang/Object"))) (by decide) (by decide))))
  refine ⟨_, _, X198.returnOut hx Bd.returns (hb hby own_d16_11) hr, hK _ _ ⟨hrun, hended, _, _, rfl, ?_, ⟨_, rfl⟩, hW, hsame.mono (by decide) (by decide)⟩⟩
  show own_Q_al Z a w_NONE w_DEF w_EMP w_EL w_ELA mir kd ke h0 n0 _ T198.heap _
  rw [e198]
  exact ⟨rfl, N198, K198, f200, f201, Fw198, f202⟩
theorem own_d20_0 : decode jdk_38_method_6_code 0 = .ok (.aload_n 0, 1) := by decide +kernel
theorem own_d20_1 : decode jdk_38_method_6_code 1 = .ok (.getfield 9, 3) := by decide +kernel
theorem own_d20_4 : decode jdk_38_method_6_code 4 = .ok (.arraylength, 1) := by decide +kernel
theorem own_d20_5 : decode jdk_38_method_6_code 5 = .ok (.istore_n 2, 1) := by decide +kernel
theorem own_d20_6 : decode jdk_38_method_6_code 6 = .ok (.iload_n 2, 1) := by decide +kernel
theorem own_d20_7 : decode jdk_38_method_6_code 7 = .ok (.ifCond .gt 13, 3) := by decide +kernel
theorem own_d20_10 : decode jdk_38_method_6_code 10 = .ok (.aload_n 0, 1) := by decide +kernel
theorem own_d20_11 : decode jdk_38_method_6_code 11 = .ok (.getfield 9, 3) := by decide +kernel
theorem own_d20_14 : decode jdk_38_method_6_code 14 = .ok (.getstatic 39, 3) := by decide +kernel
theorem own_d20_17 : decode jdk_38_method_6_code 17 = .ok (.if_acmp .eq 28, 3) := by decide +kernel
theorem own_d20_45 : decode jdk_38_method_6_code 45 = .ok (.aload_n 0, 1) := by decide +kernel
theorem own_d20_46 : decode jdk_38_method_6_code 46 = .ok (.bipush 10, 2) := by decide +kernel
theorem own_d20_48 : decode jdk_38_method_6_code 48 = .ok (.iload_n 1, 1) := by decide +kernel
theorem own_d20_49 : decode jdk_38_method_6_code 49 = .ok (.invokestatic 79, 3) := by decide +kernel
theorem own_pd_6 : parseMethodDescriptor "(II)I" = some ⟨[.int, .int], some .int⟩ := by decide +kernel
theorem own_d20_52 : decode jdk_38_method_6_code 52 = .ok (.anewarray 7, 3) := by decide +kernel
theorem own_d20_55 : decode jdk_38_method_6_code 55 = .ok (.dup_x1, 1) := by decide +kernel
theorem own_d20_56 : decode jdk_38_method_6_code 56 = .ok (.putfield 9, 3) := by decide +kernel
theorem own_d20_59 : decode jdk_38_method_6_code 59 = .ok (.areturn, 1) := by decide +kernel
theorem own_ef_growI (m : MethodId) (x0 : Addr) (x1 : Int32)  : entryFrame m #[(.ref x0), (.int x1)] 4 = mkF m 0 #[.val (.ref x0), .val (.int x1), .unset, .unset] [] := by first | (simp [entryFrame, mkF, argsToLocals, Value.category]; done) | rfl
def own_Q_growI (Z : State) (a : Addr) (w_NONE w_DEF w_EMP w_EL w_ELA mir : Addr) (kd ke : ClassId) (h0 : Heap) (n0 : Nat) (v : Option Value) (h : Heap) (L : List Loc) : Prop := ∃ (r : Addr) (kr : ClassId), v = some (.ref r) ∧ Fr n0 L ∧ Keep h0 h [a] ∧ h0.size ≤ r ∧ Exa Z h r "[Ljava/lang/Object;" ∧ Arv Z h r kr (.object "java/lang/Object") (10 : Int32) [.null, .null, .null, .null, .null, .null, .null, .null, .null, .null] .null ∧ Ovr Z kr "java/lang/Object" ∧ Exa Z h a "java/util/ArrayList" ∧ Fld Z h a "java/util/AbstractList" "modCount" "I" (.int (1 : Int32)) ∧ Fld Z h a "java/util/ArrayList" "elementData" "[Ljava/lang/Object;" (.ref r) ∧ Fld Z h a "java/util/ArrayList" "size" "I" (.int (0 : Int32))
set_option maxRecDepth 65536 in
set_option maxHeartbeats 40000000 in
theorem own_rm_growI (l : Launch) (Z : State) (a0 : Array Value) (hw : ∀ d ∈ tables_1, d.before a0 Z = true) (ws : List Jvm.Cond) (a : Addr) (w_NONE w_DEF w_EMP w_EL w_ELA mir : Addr) (kd ke : ClassId) (h0 : Heap) (n0 : Nat) (O0 : Old Z n0 h0) (HS : own_St Z w_NONE w_DEF w_EMP w_EL w_ELA mir kd ke) (E1 : Exa Z h0 a "java/util/ArrayList") (F2 : Fld Z h0 a "java/util/AbstractList" "modCount" "I" (.int (1 : Int32))) (F3 : Fld Z h0 a "java/util/ArrayList" "elementData" "[Ljava/lang/Object;" (.ref w_DEF)) (F4 : Fld Z h0 a "java/util/ArrayList" "size" "I" (.int (0 : Int32))) (G5 : n0 ≤ a) :
    MetFree l (⟨"java/util/ArrayList", "grow", "(I)[Ljava/lang/Object;"⟩ : MethodName) (head1 (Jvm.Cond.code (⟨"java/util/ArrayList", "grow", "(I)[Ljava/lang/Object;"⟩ : MethodName) jdk_38_method_6_code 4 (some (.array (.object "java/lang/Object"))) :: ws) ({ frames := 1, cells := 1, slots := 10, locals := 14 } : Room)) (fun ar9 U => ar9 = #[(.ref a), (.int (1 : Int32))] ∧ Z.Warmed39 U.vm ∧ U.heap = h0) (fun _ _ _ _ _ => True) (fun _ U o U' => ∃ v L, o = .returned v ∧ own_Q_growI Z a w_NONE w_DEF w_EMP w_EL w_ELA mir kd ke h0 n0 v U'.heap L ∧ FrameEnd U o U' L ({ frames := 1, cells := 1, slots := 10, locals := 14 } : Room).cells ({ frames := 1, cells := 1, slots := 10, locals := 14 } : Room).slots) := by
  refine MetFree.of_bodySF (plainFor_of_name own_pn_6) hisR ?_
  intro p e s m args below meth c s₁ Bd hml0 hP hK0
  obtain ⟨rfl, hZ, hh⟩ := hP
  have hx := Bd.exec
  have hby := Bd.bytes
  have hml : c.maxLocals = 4 := hml0
  have hown : s.vm.findClass "java/util/ArrayList" = some m.cls := findClass_of_methodNamed Bd.named
  have hnm := (name_of_methodNamed Bd.named Bd.method).1
  have X0 : Stand p l e ({ frames := 1, cells := 1, slots := 10, locals := 14 } : Room) s m #[(.ref a), (.int (1 : Int32))] below meth c s₁ [] 0 0 := Stand.of_body Bd
  have e0 : s₁.heap = h0 := by rw [← hh, Bd.state]; rfl
  have N0 := Fr.nil n0
  have K0 := Keep.refl h0 [a]
  refine own_open fun K hK => ?_
  refine own_go (B := s₁.setTop (mkF m 0 #[.val (.ref a), .val (.int (1 : Int32)), .unset, .unset] [])) (fun t k => castTop (own_ef_growI m a (1 : Int32)) k) ?_
  refine own_go (B := s₁.setTop (mkF m 1 #[.val (.ref a), .val (.int (1 : Int32)), .unset, .unset] [(.ref a)])) (fun t k => XS.aloadN X0.here hx rfl (hb hby own_d20_0) rfl rfl k) ?_
  obtain ⟨T203, X203, e203, st203⟩ := getF X0 hx hZ hown (host := "") (Or.inl (hw _ (List.mem_of_getElem? (i := 73) rfl))) Via.refl e0 F3 (g := (mkF m 1 #[.val (.ref a), .val (.int (1 : Int32)), .unset, .unset] [(.ref a)])) rfl rfl (hb hby own_d20_1)
  refine own_go (B := T203.setTop (mkF m 4 #[.val (.ref a), .val (.int (1 : Int32)), .unset, .unset] [(.ref w_DEF)])) (fun t k => st203 _ k) ?_
  obtain ⟨cl204, Ar204, qr204, Sr204, Nr204, Hr204, Gr204⟩ := id (HS.2.2.2.2.1.ext O0.2)
  refine own_go (B := T203.setTop (mkF m 5 #[.val (.ref a), .val (.int (1 : Int32)), .unset, .unset] [(.int (0 : Int32))])) (fun t k => X203.arraylength hx (by rw [e203]; exact Ar204.1) (State.isArrayOf_alike hZ.alike Ar204.2.1) (g := (mkF m 4 #[.val (.ref a), .val (.int (1 : Int32)), .unset, .unset] [(.ref w_DEF)])) rfl rfl (hb hby own_d20_4) _ (by rw [len_of Sr204 Nr204]; exact k)) ?_
  refine own_go (B := T203.setTop (mkF m 6 #[.val (.ref a), .val (.int (1 : Int32)), .val (.int (0 : Int32)), .unset] [])) (fun t k => XS.istoreN X203.here hx rfl (hb hby own_d20_5) rfl (l' := #[.val (.ref a), .val (.int (1 : Int32)), .val (.int (0 : Int32)), .unset]) rfl k) ?_
  refine own_go (B := T203.setTop (mkF m 7 #[.val (.ref a), .val (.int (1 : Int32)), .val (.int (0 : Int32)), .unset] [(.int (0 : Int32))])) (fun t k => XS.iloadN X203.here hx rfl (hb hby own_d20_6) rfl k) ?_
  refine own_go (B := T203.setTop (mkF m 10 #[.val (.ref a), .val (.int (1 : Int32)), .val (.int (0 : Int32)), .unset] [])) (fun t k => XS.ifNo X203.here hx rfl (hb hby own_d20_7) rfl ((if0 _ _).trans (flt (by decide : ¬ ((0 : Int32) < (0 : Int32)))).2.2.1) k) ?_
  refine own_go (B := T203.setTop (mkF m 11 #[.val (.ref a), .val (.int (1 : Int32)), .val (.int (0 : Int32)), .unset] [(.ref a)])) (fun t k => XS.aloadN X203.here hx rfl (hb hby own_d20_10) rfl rfl k) ?_
  obtain ⟨T206, X206, e206, st206⟩ := getF X203 hx hZ hown (host := "") (Or.inl (hw _ (List.mem_of_getElem? (i := 73) rfl))) Via.refl e203 F3 (g := (mkF m 11 #[.val (.ref a), .val (.int (1 : Int32)), .val (.int (0 : Int32)), .unset] [(.ref a)])) rfl rfl (hb hby own_d20_11)
  refine own_go (B := T206.setTop (mkF m 14 #[.val (.ref a), .val (.int (1 : Int32)), .val (.int (0 : Int32)), .unset] [(.ref w_DEF)])) (fun t k => st206 _ k) ?_
  obtain ⟨T207, X207, e207, st207⟩ := getS2 X206 hx hZ hown (host := "") (Or.inl (hw _ (List.mem_of_getElem? (i := 72) rfl))) Via.refl e206 (HS.2.2.2.1.ext O0.2) (g := (mkF m 14 #[.val (.ref a), .val (.int (1 : Int32)), .val (.int (0 : Int32)), .unset] [(.ref w_DEF)])) rfl (hb hby own_d20_14)
  refine own_go (B := T207.setTop (mkF m 17 #[.val (.ref a), .val (.int (1 : Int32)), .val (.int (0 : Int32)), .unset] [(.ref w_DEF), (.ref w_DEF)])) (fun t k => st207 _ k) ?_
  refine own_go (B := T207.setTop (mkF m 45 #[.val (.ref a), .val (.int (1 : Int32)), .val (.int (0 : Int32)), .unset] [])) (fun t k => Jvm.RoadKit.acmp (g := (mkF m 17 #[.val (.ref a), .val (.int (1 : Int32)), .val (.int (0 : Int32)), .unset] [(.ref w_DEF), (.ref w_DEF)])) X207 hx rfl rfl rfl (pc0 := 17) (pc' := 45) (same := true) rfl (hb hby own_d20_17) rfl (decide_eq_true rfl) (by decide) (by decide) k) ?_
  refine own_go (B := T207.setTop (mkF m 46 #[.val (.ref a), .val (.int (1 : Int32)), .val (.int (0 : Int32)), .unset] [(.ref a)])) (fun t k => XS.aloadN X207.here hx rfl (hb hby own_d20_45) rfl rfl k) ?_
  refine own_go (B := T207.setTop (mkF m 48 #[.val (.ref a), .val (.int (1 : Int32)), .val (.int (0 : Int32)), .unset] [(.int (10 : Int32)), (.ref a)])) (fun t k => XS.bipush X207.here hx rfl (hb hby own_d20_46) k) ?_
  refine own_go (B := T207.setTop (mkF m 49 #[.val (.ref a), .val (.int (1 : Int32)), .val (.int (0 : Int32)), .unset] [(.int (1 : Int32)), (.int (10 : Int32)), (.ref a)])) (fun t k => XS.iloadN X207.here hx rfl (hb hby own_d20_48) rfl k) ?_
  obtain ⟨_, _, ⟨T208, L208, k208, n208⟩, -, X208, ⟨Lc208, hQ208, l208, y208, z208⟩, st208⟩ := Jvm.LawKit.callS X207 hx (y := (⟨"java/lang/Math", "max", "(II)I"⟩ : MethodName)) hown (mvT hZ (hw _ (List.mem_of_getElem? (i := 99) rfl))) (mvT hZ (hw _ (List.mem_of_getElem? (i := 100) rfl))) (mvT hZ (hw _ (List.mem_of_getElem? (i := 101) rfl))) (mvT hZ (hw _ (List.mem_of_getElem? (i := 102) rfl))) (by decide) (backOf (W := 1) (own_rm_mmax l Z a0 hw [] (10 : Int32) (1 : Int32) (10 : Int32) h0 n0 O0 (by decide)) hZ (hw _ (List.mem_of_getElem? (i := 102) rfl)) (hw _ (List.mem_of_getElem? (i := 101) rfl)) (by decide) (by decide)) (g := (mkF m 49 #[.val (.ref a), .val (.int (1 : Int32)), .val (.int (0 : Int32)), .unset] [(.int (1 : Int32)), (.int (10 : Int32)), (.ref a)])) rfl (by rw [hml]; rfl) (argsL := [(.int (10 : Int32)), (.int (1 : Int32))]) (rest := [(.ref a)]) (lenOf own_pd_6 rfl) rfl (by show 2 * 0 + _ ≤ _; exact Nat.le_of_eq rfl) (hb hby own_d20_49) (fun _ _ => ⟨rfl, e207, (by decide : 0 + 0 ≤ _), (by decide : 0 + 0 ≤ _)⟩)
  dsimp only [Pt.U, Pt.locs, Pt.cells, Pt.slots] at X208 l208 y208 z208 st208 hQ208
  subst l208 y208 z208
  obtain ⟨rfl, N208q, eh208⟩ := hQ208
  have N208 := Fr.app N0 N208q
  refine own_go (B := T208.setTop (mkF m 52 #[.val (.ref a), .val (.int (1 : Int32)), .val (.int (0 : Int32)), .unset] [(.int (10 : Int32)), (.ref a)])) (fun t k => st208 _ k) ?_
  obtain ⟨T209, h209, k209, X209, e209, E209, A209, Ov209, Ex209, st209⟩ := own_newR X208 hx hZ (A := "[Ljava/lang/Object;") (by decide) hown (hw _ (List.mem_of_getElem? (i := 103) rfl)) (hw _ (List.mem_of_getElem? (i := 104) rfl)) eh208 (g := (mkF m 52 #[.val (.ref a), .val (.int (1 : Int32)), .val (.int (0 : Int32)), .unset] [(.int (10 : Int32)), (.ref a)])) rfl (hb hby own_d20_52) rfl (by decide) (cap := 10) (by decide) (by decide) (by decide) (by decide)
  obtain ⟨b209, g209⟩ : ∃ z, z = h0.size := ⟨_, rfl⟩
  rw [← g209] at A209 Ex209 st209
  have lt_a_209 := E1.lt
  have g_b209 : n0 ≤ b209 := Nat.le_trans (own_n0 O0) (Nat.le_of_eq g209.symm)
  have O209 := O0.ext E209
  have sz_b209 : h0.size ≤ b209 := Nat.le_trans K0.1 (Nat.le_of_eq g209.symm)
  have K209 := K0.ext E209
  have V209 := (Arv.new A209 (by decide)).pad (pad_rep [] .null 10)
  refine own_go (B := T209.setTop (mkF m 55 #[.val (.ref a), .val (.int (1 : Int32)), .val (.int (0 : Int32)), .unset] [(.ref b209), (.ref a)])) (fun t k => st209 _ k) ?_
  refine own_go (B := T209.setTop (mkF m 56 #[.val (.ref a), .val (.int (1 : Int32)), .val (.int (0 : Int32)), .unset] [(.ref b209), (.ref a), (.ref b209)])) (fun t k => XS.dupX1 X209.here hx rfl (hb hby own_d20_55) rfl rfl rfl k) ?_
  have f210 := (F3.ext E209)
  have f211 := (E1.ext E209)
  obtain ⟨T212, h212, X212, e212, W212, st212⟩ := putF X209 hx hZ hown (host := "") (Or.inl (hw _ (List.mem_of_getElem? (i := 73) rfl))) Via.refl e209 f210 f211 (Or.inl (hw _ (List.mem_of_getElem? (i := 74) rfl))) (hw _ (List.mem_of_getElem? (i := 52) rfl)) (ty := (.array (.object "java/lang/Object"))) (by decide) rfl rfl (g := (mkF m 56 #[.val (.ref a), .val (.int (1 : Int32)), .val (.int (0 : Int32)), .unset] [(.ref b209), (.ref a), (.ref b209)])) rfl rfl (hb hby own_d20_56)
  have Fw212 := f210.same W212
  have N212 := Fr.snoc X212 N208 G5
  have O212 := O209.wr W212 G5
  have K212 := K209.wr W212 (Or.inl (by simp))
  refine own_go (B := T212.setTop (mkF m 59 #[.val (.ref a), .val (.int (1 : Int32)), .val (.int (0 : Int32)), .unset] [(.ref b209)])) (fun t k => st212 _ k) ?_
  obtain ⟨fs, hr, hrun, hended, hW, hsame⟩ := X212.leave (v := some (.ref b209)) (fun h => by rw [Bd.returns] at h; cases h)
  have f214 := (Ex209.wr W212)
  have f215 := (V209.other W212 (Ne.symm (Nat.ne_of_lt (Nat.lt_of_lt_of_le lt_a_209 (Nat.le_of_eq g209.symm)))))
  have f216 := (f211.wr W212)
  have f217 := ((F2.ext E209).other W212 (Or.inr (slot_ne (Or.inl (hw _ (List.mem_of_getElem? (i := 71) rfl))) (Or.inl (hw _ (List.mem_of_getElem? (i := 74) rfl))) (by decide) (t := .int) (t' := (.array (.object "java/lang/Object"))) (by decide) (by decide))))
  have f218 := ((F4.ext E209).other W212 (Or.inr (slot_ne (Or.inl (hw _ (List.mem_of_getElem? (i := 83) rfl))) (Or.inl (hw _ (List.mem_of_getElem? (i := 74) rfl))) (by decide) (t := .int) (t' := (.array (.object "java/lang/Object"))) (by decide) (by decide))))
  refine ⟨_, _, own_retA X212 hx Bd.returns rfl rfl (hb hby own_d20_59) hr, hK _ _ ⟨hrun, hended, _, _, rfl, ?_, ⟨_, rfl⟩, hW, hsame.mono (by decide) (by decide)⟩⟩
  show own_Q_growI Z a w_NONE w_DEF w_EMP w_EL w_ELA mir kd ke h0 n0 _ T212.heap _
  rw [e212]
  exact ⟨b209, k209, rfl, N212, K212, sz_b209, f214, f215, Ov209, f216, f217, Fw212, f218⟩
theorem own_d19_0 : decode jdk_38_method_7_code 0 = .ok (.aload_n 0, 1) := by decide +kernel
theorem own_d19_1 : decode jdk_38_method_7_code 1 = .ok (.aload_n 0, 1) := by decide +kernel
theorem own_d19_2 : decode jdk_38_method_7_code 2 = .ok (.getfield 48, 3) := by decide +kernel
theorem own_d19_5 : decode jdk_38_method_7_code 5 = .ok (.iconst 1, 1) := by decide +kernel
theorem own_d19_6 : decode jdk_38_method_7_code 6 = .ok (.iadd, 1) := by decide +kernel
theorem own_d19_7 : decode jdk_38_method_7_code 7 = .ok (.invokevirtual 69, 3) := by decide +kernel
theorem own_pd_7 : parseMethodDescriptor "(I)[Ljava/lang/Object;" = some ⟨[.int], some (.array (.object "java/lang/Object"))⟩ := by decide +kernel
theorem own_d19_10 : decode jdk_38_method_7_code 10 = .ok (.areturn, 1) := by decide +kernel
theorem own_ef_grow (m : MethodId) (x0 : Addr)  : entryFrame m #[(.ref x0)] 1 = mkF m 0 #[.val (.ref x0)] [] := by first | (simp [entryFrame, mkF, argsToLocals, Value.category]; done) | rfl
def own_Q_grow (Z : State) (a : Addr) (w_NONE w_DEF w_EMP w_EL w_ELA mir : Addr) (kd ke : ClassId) (h0 : Heap) (n0 : Nat) (v : Option Value) (h : Heap) (L : List Loc) : Prop := ∃ (r : Addr) (kr : ClassId), v = some (.ref r) ∧ Fr n0 L ∧ Keep h0 h [a] ∧ h0.size ≤ r ∧ Exa Z h r "[Ljava/lang/Object;" ∧ Arv Z h r kr (.object "java/lang/Object") (10 : Int32) [.null, .null, .null, .null, .null, .null, .null, .null, .null, .null] .null ∧ Ovr Z kr "java/lang/Object" ∧ Exa Z h a "java/util/ArrayList" ∧ Fld Z h a "java/util/AbstractList" "modCount" "I" (.int (1 : Int32)) ∧ Fld Z h a "java/util/ArrayList" "elementData" "[Ljava/lang/Object;" (.ref r) ∧ Fld Z h a "java/util/ArrayList" "size" "I" (.int (0 : Int32))
set_option maxRecDepth 65536 in
set_option maxHeartbeats 40000000 in
theorem own_rm_grow (l : Launch) (Z : State) (a0 : Array Value) (hw : ∀ d ∈ tables_1, d.before a0 Z = true) (ws : List Jvm.Cond) (a : Addr) (w_NONE w_DEF w_EMP w_EL w_ELA mir : Addr) (kd ke : ClassId) (h0 : Heap) (n0 : Nat) (O0 : Old Z n0 h0) (HS : own_St Z w_NONE w_DEF w_EMP w_EL w_ELA mir kd ke) (E1 : Exa Z h0 a "java/util/ArrayList") (F2 : Fld Z h0 a "java/util/AbstractList" "modCount" "I" (.int (1 : Int32))) (F3 : Fld Z h0 a "java/util/ArrayList" "elementData" "[Ljava/lang/Object;" (.ref w_DEF)) (F4 : Fld Z h0 a "java/util/ArrayList" "size" "I" (.int (0 : Int32))) (G5 : n0 ≤ a) :
    MetFree l (⟨"java/util/ArrayList", "grow", "()[Ljava/lang/Object;"⟩ : MethodName) (head1 (Jvm.Cond.code (⟨"java/util/ArrayList", "grow", "()[Ljava/lang/Object;"⟩ : MethodName) jdk_38_method_7_code 1 (some (.array (.object "java/lang/Object"))) :: ws) ({ frames := 2, cells := 1, slots := 10, locals := 29 } : Room)) (fun ar9 U => ar9 = #[(.ref a)] ∧ Z.Warmed39 U.vm ∧ U.heap = h0) (fun _ _ _ _ _ => True) (fun _ U o U' => ∃ v L, o = .returned v ∧ own_Q_grow Z a w_NONE w_DEF w_EMP w_EL w_ELA mir kd ke h0 n0 v U'.heap L ∧ FrameEnd U o U' L ({ frames := 2, cells := 1, slots := 10, locals := 29 } : Room).cells ({ frames := 2, cells := 1, slots := 10, locals := 29 } : Room).slots) := by
  refine MetFree.of_bodySF (plainFor_of_name own_pn_6) hisR ?_
  intro p e s m args below meth c s₁ Bd hml0 hP hK0
  obtain ⟨rfl, hZ, hh⟩ := hP
  have hx := Bd.exec
  have hby := Bd.bytes
  have hml : c.maxLocals = 1 := hml0
  have hown : s.vm.findClass "java/util/ArrayList" = some m.cls := findClass_of_methodNamed Bd.named
  have hnm := (name_of_methodNamed Bd.named Bd.method).1
  have X0 : Stand p l e ({ frames := 2, cells := 1, slots := 10, locals := 29 } : Room) s m #[(.ref a)] below meth c s₁ [] 0 0 := Stand.of_body Bd
  have e0 : s₁.heap = h0 := by rw [← hh, Bd.state]; rfl
  have N0 := Fr.nil n0
  have K0 := Keep.refl h0 [a]
  refine own_open fun K hK => ?_
  refine own_go (B := s₁.setTop (mkF m 0 #[.val (.ref a)] [])) (fun t k => castTop (own_ef_grow m a) k) ?_
  refine own_go (B := s₁.setTop (mkF m 1 #[.val (.ref a)] [(.ref a)])) (fun t k => XS.aloadN X0.here hx rfl (hb hby own_d19_0) rfl rfl k) ?_
  refine own_go (B := s₁.setTop (mkF m 2 #[.val (.ref a)] [(.ref a), (.ref a)])) (fun t k => XS.aloadN X0.here hx rfl (hb hby own_d19_1) rfl rfl k) ?_
  obtain ⟨T219, X219, e219, st219⟩ := getF X0 hx hZ hown (host := "") (Or.inl (hw _ (List.mem_of_getElem? (i := 82) rfl))) Via.refl e0 F4 (g := (mkF m 2 #[.val (.ref a)] [(.ref a), (.ref a)])) rfl rfl (hb hby own_d19_2)
  refine own_go (B := T219.setTop (mkF m 5 #[.val (.ref a)] [(.int (0 : Int32)), (.ref a)])) (fun t k => st219 _ k) ?_
  refine own_go (B := T219.setTop (mkF m 6 #[.val (.ref a)] [(.int (1 : Int32)), (.int (0 : Int32)), (.ref a)])) (fun t k => XS.iconst X219.here hx rfl (hb hby own_d19_5) k) ?_
  refine own_go (B := T219.setTop (mkF m 7 #[.val (.ref a)] [(.int (1 : Int32)), (.ref a)])) (fun t k => XS.iadd X219.here hx rfl (hb hby own_d19_6) rfl k) ?_
  have lt_a_220 := E1.lt
  obtain ⟨cq221, q221, q221'⟩ := E1.cell
  obtain ⟨_, _, ⟨T221, L221, k221, n221⟩, -, X221, ⟨Lc221, hQ221, l221, y221, z221⟩, st221⟩ := X219.privateBack hx (y := (⟨"java/util/ArrayList", "grow", "(I)[Ljava/lang/Object;"⟩ : MethodName)) hown (mvT hZ (hw _ (List.mem_of_getElem? (i := 94) rfl))) (mvT hZ (hw _ (List.mem_of_getElem? (i := 95) rfl))) (mvT hZ (hw _ (List.mem_of_getElem? (i := 97) rfl))) (Cond.privateMethod_at (mvP hZ (hw _ (List.mem_of_getElem? (i := 96) rfl)) (args := #[]))) (mvT hZ (hw _ (List.mem_of_getElem? (i := 98) rfl))) (by decide) (backOf (W := 0) (own_rm_growI l Z a0 hw [] a w_NONE w_DEF w_EMP w_EL w_ELA mir kd ke h0 n0 O0 HS E1 F2 F3 F4 G5) hZ (hw _ (List.mem_of_getElem? (i := 98) rfl)) (hw _ (List.mem_of_getElem? (i := 53) rfl)) (by decide) (by decide)) (g := (mkF m 7 #[.val (.ref a)] [(.int (1 : Int32)), (.ref a)])) rfl (by rw [hml]; rfl) (Steps.refl _) (a := a) (by rw [e219]; exact q221) q221' (argsL := [(.int (1 : Int32))]) (rest := []) (lenOf own_pd_7 rfl) rfl (by show 2 * 0 + _ ≤ _; exact Nat.le_of_eq rfl) (hb hby own_d19_7) (fun _ _ => ⟨rfl, e219, (by decide : 0 + 1 ≤ _), (by decide : 0 + 10 ≤ _)⟩)
  dsimp only [Pt.U, Pt.locs, Pt.cells, Pt.slots] at X221 l221 y221 z221 st221 hQ221
  subst l221 y221 z221
  obtain ⟨r_221, kr_221, rfl, N221q, Kc221, Q221_0, Q221_1, Q221_2, Q221_3, Q221_4, Q221_5, Q221_6, Q221_7⟩ := hQ221
  have O221 := O0.keep Kc221 (allS G5 all0)
  have K221 := K0.trans Kc221 (allS (Or.inl (by simp)) all0)
  have N221 := Fr.app N0 N221q
  refine own_go (B := T221.setTop (mkF m 10 #[.val (.ref a)] [(.ref r_221)])) (fun t k => st221.trans k) ?_
  have g_r_221 : n0 ≤ r_221 := Nat.le_trans (own_n0 O0) Q221_0
  have sz_r_221 : h0.size ≤ r_221 := Nat.le_trans K0.1 Q221_0
  obtain ⟨fs, hr, hrun, hended, hW, hsame⟩ := X221.leave (v := some (.ref r_221)) (fun h => by rw [Bd.returns] at h; cases h)
  refine ⟨_, _, own_retA X221 hx Bd.returns rfl rfl (hb hby own_d19_10) hr, hK _ _ ⟨hrun, hended, _, _, rfl, ?_, ⟨_, rfl⟩, hW, hsame.mono (by decide) (by decide)⟩⟩
  show own_Q_grow Z a w_NONE w_DEF w_EMP w_EL w_ELA mir kd ke h0 n0 _ T221.heap _
  exact ⟨r_221, kr_221, rfl, N221, K221, sz_r_221, Q221_1, Q221_2, Q221_3, Q221_4, Q221_5, Q221_6, Q221_7⟩
theorem own_d18_0 : decode jdk_38_method_24_code 0 = .ok (.iload_n 3, 1) := by decide +kernel
theorem own_d18_1 : decode jdk_38_method_24_code 1 = .ok (.aload_n 2, 1) := by decide +kernel
theorem own_d18_2 : decode jdk_38_method_24_code 2 = .ok (.arraylength, 1) := by decide +kernel
theorem own_d18_3 : decode jdk_38_method_24_code 3 = .ok (.if_icmp .ne 8, 3) := by decide +kernel
theorem own_d18_6 : decode jdk_38_method_24_code 6 = .ok (.aload_n 0, 1) := by decide +kernel
theorem own_d18_7 : decode jdk_38_method_24_code 7 = .ok (.invokevirtual 129, 3) := by decide +kernel
theorem own_pd_8 : parseMethodDescriptor "()[Ljava/lang/Object;" = some ⟨[], some (.array (.object "java/lang/Object"))⟩ := by decide +kernel
theorem own_d18_10 : decode jdk_38_method_24_code 10 = .ok (.astore_n 2, 1) := by decide +kernel
theorem own_d18_11 : decode jdk_38_method_24_code 11 = .ok (.aload_n 2, 1) := by decide +kernel
theorem own_d18_12 : decode jdk_38_method_24_code 12 = .ok (.iload_n 3, 1) := by decide +kernel
theorem own_d18_13 : decode jdk_38_method_24_code 13 = .ok (.aload_n 1, 1) := by decide +kernel
theorem own_d18_14 : decode jdk_38_method_24_code 14 = .ok (.aastore, 1) := by decide +kernel
theorem own_d18_15 : decode jdk_38_method_24_code 15 = .ok (.aload_n 0, 1) := by decide +kernel
theorem own_d18_16 : decode jdk_38_method_24_code 16 = .ok (.iload_n 3, 1) := by decide +kernel
theorem own_d18_17 : decode jdk_38_method_24_code 17 = .ok (.iconst 1, 1) := by decide +kernel
theorem own_d18_18 : decode jdk_38_method_24_code 18 = .ok (.iadd, 1) := by decide +kernel
theorem own_d18_19 : decode jdk_38_method_24_code 19 = .ok (.putfield 48, 3) := by decide +kernel
theorem own_d18_22 : decode jdk_38_method_24_code 22 = .ok (.return_, 1) := by decide +kernel
theorem own_ef_add3 (m : MethodId) (x0 : Addr) (x1 : Addr) (x2 : Addr) (x3 : Int32)  : entryFrame m #[(.ref x0), (.ref x1), (.ref x2), (.int x3)] 4 = mkF m 0 #[.val (.ref x0), .val (.ref x1), .val (.ref x2), .val (.int x3)] [] := by first | (simp [entryFrame, mkF, argsToLocals, Value.category]; done) | rfl
def own_Q_add3 (Z : State) (a st : Addr) (w_NONE w_DEF w_EMP w_EL w_ELA mir : Addr) (kd ke : ClassId) (h0 : Heap) (n0 : Nat) (v : Option Value) (h : Heap) (L : List Loc) : Prop := ∃ (r : Addr) (kr : ClassId), v = none ∧ Fr n0 L ∧ Keep h0 h [a] ∧ h0.size ≤ r ∧ Exa Z h r "[Ljava/lang/Object;" ∧ Arv Z h r kr (.object "java/lang/Object") (10 : Int32) [(.ref st), .null, .null, .null, .null, .null, .null, .null, .null, .null] .null ∧ Exa Z h a "java/util/ArrayList" ∧ Fld Z h a "java/util/AbstractList" "modCount" "I" (.int (1 : Int32)) ∧ Fld Z h a "java/util/ArrayList" "elementData" "[Ljava/lang/Object;" (.ref r) ∧ Fld Z h a "java/util/ArrayList" "size" "I" (.int (1 : Int32))
set_option maxRecDepth 65536 in
set_option maxHeartbeats 40000000 in
theorem own_rm_add3 (l : Launch) (Z : State) (a0 : Array Value) (hw : ∀ d ∈ tables_1, d.before a0 Z = true) (ws : List Jvm.Cond) (a st : Addr) (w_NONE w_DEF w_EMP w_EL w_ELA mir : Addr) (kd ke : ClassId) (h0 : Heap) (n0 : Nat) (O0 : Old Z n0 h0) (HS : own_St Z w_NONE w_DEF w_EMP w_EL w_ELA mir kd ke) (E1 : Exa Z h0 a "java/util/ArrayList") (F2 : Fld Z h0 a "java/util/AbstractList" "modCount" "I" (.int (1 : Int32))) (F3 : Fld Z h0 a "java/util/ArrayList" "elementData" "[Ljava/lang/Object;" (.ref w_DEF)) (F4 : Fld Z h0 a "java/util/ArrayList" "size" "I" (.int (0 : Int32))) (G5 : n0 ≤ a) (E6 : Exa Z h0 st "com/example/invariant/invariant/State") :
    MetFree l (⟨"java/util/ArrayList", "add", "(Ljava/lang/Object;[Ljava/lang/Object;I)V"⟩ : MethodName) (head1 (Jvm.Cond.code (⟨"java/util/ArrayList", "add", "(Ljava/lang/Object;[Ljava/lang/Object;I)V"⟩ : MethodName) jdk_38_method_24_code 4 none :: ws) ({ frames := 3, cells := 1, slots := 10, locals := 41 } : Room)) (fun ar9 U => ar9 = #[(.ref a), (.ref st), (.ref w_DEF), (.int (0 : Int32))] ∧ Z.Warmed39 U.vm ∧ U.heap = h0) (fun _ _ _ _ _ => True) (fun _ U o U' => ∃ v L, o = .returned v ∧ own_Q_add3 Z a st w_NONE w_DEF w_EMP w_EL w_ELA mir kd ke h0 n0 v U'.heap L ∧ FrameEnd U o U' L ({ frames := 3, cells := 1, slots := 10, locals := 41 } : Room).cells ({ frames := 3, cells := 1, slots := 10, locals := 41 } : Room).slots) := by
  refine MetFree.of_bodySF (plainFor_of_name own_pn_6) hisR ?_
  intro p e s m args below meth c s₁ Bd hml0 hP hK0
  obtain ⟨rfl, hZ, hh⟩ := hP
  have hx := Bd.exec
  have hby := Bd.bytes
  have hml : c.maxLocals = 4 := hml0
  have hown : s.vm.findClass "java/util/ArrayList" = some m.cls := findClass_of_methodNamed Bd.named
  have hnm := (name_of_methodNamed Bd.named Bd.method).1
  have X0 : Stand p l e ({ frames := 3, cells := 1, slots := 10, locals := 41 } : Room) s m #[(.ref a), (.ref st), (.ref w_DEF), (.int (0 : Int32))] below meth c s₁ [] 0 0 := Stand.of_body Bd
  have e0 : s₁.heap = h0 := by rw [← hh, Bd.state]; rfl
  have N0 := Fr.nil n0
  have K0 := Keep.refl h0 [a]
  refine own_open fun K hK => ?_
  refine own_go (B := s₁.setTop (mkF m 0 #[.val (.ref a), .val (.ref st), .val (.ref w_DEF), .val (.int (0 : Int32))] [])) (fun t k => castTop (own_ef_add3 m a st w_DEF (0 : Int32)) k) ?_
  refine own_go (B := s₁.setTop (mkF m 1 #[.val (.ref a), .val (.ref st), .val (.ref w_DEF), .val (.int (0 : Int32))] [(.int (0 : Int32))])) (fun t k => XS.iloadN X0.here hx rfl (hb hby own_d18_0) rfl k) ?_
  refine own_go (B := s₁.setTop (mkF m 2 #[.val (.ref a), .val (.ref st), .val (.ref w_DEF), .val (.int (0 : Int32))] [(.ref w_DEF), (.int (0 : Int32))])) (fun t k => XS.aloadN X0.here hx rfl (hb hby own_d18_1) rfl rfl k) ?_
  obtain ⟨cl223, Ar223, qr223, Sr223, Nr223, Hr223, Gr223⟩ := id (HS.2.2.2.2.1.ext O0.2)
  refine own_go (B := s₁.setTop (mkF m 3 #[.val (.ref a), .val (.ref st), .val (.ref w_DEF), .val (.int (0 : Int32))] [(.int (0 : Int32)), (.int (0 : Int32))])) (fun t k => X0.arraylength hx (by rw [e0]; exact Ar223.1) (State.isArrayOf_alike hZ.alike Ar223.2.1) (g := (mkF m 2 #[.val (.ref a), .val (.ref st), .val (.ref w_DEF), .val (.int (0 : Int32))] [(.ref w_DEF), (.int (0 : Int32))])) rfl rfl (hb hby own_d18_2) _ (by rw [len_of Sr223 Nr223]; exact k)) ?_
  refine own_go (B := s₁.setTop (mkF m 6 #[.val (.ref a), .val (.ref st), .val (.ref w_DEF), .val (.int (0 : Int32))] [])) (fun t k => XS.icmpNo X0.here hx rfl (hb hby own_d18_3) rfl (teq (by decide : (0 : Int32) = (0 : Int32))).2 k) ?_
  refine own_go (B := s₁.setTop (mkF m 7 #[.val (.ref a), .val (.ref st), .val (.ref w_DEF), .val (.int (0 : Int32))] [(.ref a)])) (fun t k => XS.aloadN X0.here hx rfl (hb hby own_d18_6) rfl rfl k) ?_
  have lt_a_225 := E1.lt
  have lt_st_225 := E6.lt
  obtain ⟨cq226, q226, q226'⟩ := E1.cell
  obtain ⟨_, _, ⟨T226, L226, k226, n226⟩, -, X226, ⟨Lc226, hQ226, l226, y226, z226⟩, st226⟩ := X0.privateBack hx (y := (⟨"java/util/ArrayList", "grow", "()[Ljava/lang/Object;"⟩ : MethodName)) hown (mvT hZ (hw _ (List.mem_of_getElem? (i := 89) rfl))) (mvT hZ (hw _ (List.mem_of_getElem? (i := 90) rfl))) (mvT hZ (hw _ (List.mem_of_getElem? (i := 92) rfl))) (Cond.privateMethod_at (mvP hZ (hw _ (List.mem_of_getElem? (i := 91) rfl)) (args := #[]))) (mvT hZ (hw _ (List.mem_of_getElem? (i := 93) rfl))) (by decide) (backOf (W := 0) (own_rm_grow l Z a0 hw [] a w_NONE w_DEF w_EMP w_EL w_ELA mir kd ke h0 n0 O0 HS E1 F2 F3 F4 G5) hZ (hw _ (List.mem_of_getElem? (i := 93) rfl)) (hw _ (List.mem_of_getElem? (i := 53) rfl)) (by decide) (by decide)) (g := (mkF m 7 #[.val (.ref a), .val (.ref st), .val (.ref w_DEF), .val (.int (0 : Int32))] [(.ref a)])) rfl (by rw [hml]; rfl) (Steps.refl _) (a := a) (by rw [e0]; exact q226) q226' (argsL := []) (rest := []) (lenOf own_pd_8 rfl) rfl (by show 2 * 0 + _ ≤ _; exact Nat.le_of_eq rfl) (hb hby own_d18_7) (fun _ _ => ⟨rfl, e0, (by decide : 0 + 1 ≤ _), (by decide : 0 + 10 ≤ _)⟩)
  dsimp only [Pt.U, Pt.locs, Pt.cells, Pt.slots] at X226 l226 y226 z226 st226 hQ226
  subst l226 y226 z226
  obtain ⟨r_226, kr_226, rfl, N226q, Kc226, Q226_0, Q226_1, Q226_2, Q226_3, Q226_4, Q226_5, Q226_6, Q226_7⟩ := hQ226
  have O226 := O0.keep Kc226 (allS G5 all0)
  have K226 := K0.trans Kc226 (allS (Or.inl (by simp)) all0)
  have N226 := Fr.app N0 N226q
  refine own_go (B := T226.setTop (mkF m 10 #[.val (.ref a), .val (.ref st), .val (.ref w_DEF), .val (.int (0 : Int32))] [(.ref r_226)])) (fun t k => st226.trans k) ?_
  have g_r_226 : n0 ≤ r_226 := Nat.le_trans (own_n0 O0) Q226_0
  have sz_r_226 : h0.size ≤ r_226 := Nat.le_trans K0.1 Q226_0
  refine own_go (B := T226.setTop (mkF m 11 #[.val (.ref a), .val (.ref st), .val (.ref r_226), .val (.int (0 : Int32))] [])) (fun t k => XS.astoreN X226.here hx rfl (hb hby own_d18_10) rfl rfl (l' := #[.val (.ref a), .val (.ref st), .val (.ref r_226), .val (.int (0 : Int32))]) rfl k) ?_
  refine own_go (B := T226.setTop (mkF m 12 #[.val (.ref a), .val (.ref st), .val (.ref r_226), .val (.int (0 : Int32))] [(.ref r_226)])) (fun t k => XS.aloadN X226.here hx rfl (hb hby own_d18_11) rfl rfl k) ?_
  refine own_go (B := T226.setTop (mkF m 13 #[.val (.ref a), .val (.ref st), .val (.ref r_226), .val (.int (0 : Int32))] [(.int (0 : Int32)), (.ref r_226)])) (fun t k => XS.iloadN X226.here hx rfl (hb hby own_d18_12) rfl k) ?_
  refine own_go (B := T226.setTop (mkF m 14 #[.val (.ref a), .val (.ref st), .val (.ref r_226), .val (.int (0 : Int32))] [(.ref st), (.int (0 : Int32)), (.ref r_226)])) (fun t k => XS.aloadN X226.here hx rfl (hb hby own_d18_13) rfl rfl k) ?_
  obtain ⟨cl227, Ar227, qr227, Sr227, Nr227, Hr227, Gr227⟩ := id Q226_2
  have f228 := (E6.keep Kc226)
  have hin227 : ¬ ((0 : Int32) < 0 ∨ cl227.slots.size ≤ ((0 : Int32)).toNatClampNeg) := inb_of Sr227 ⟨by decide, by decide⟩
  obtain ⟨T227, h227, X227, e227, W227, st227⟩ := stR X226 hx hZ (rfl : T226.heap = T226.heap) Ar227 (j := (0 : Int32)) hin227 rfl (Sto.ofV Ar227 qr227 Q226_3 (Ins.of_exa f228 (hw _ (List.mem_of_getElem? (i := 105) rfl)))) (g := (mkF m 14 #[.val (.ref a), .val (.ref st), .val (.ref r_226), .val (.int (0 : Int32))] [(.ref st), (.int (0 : Int32)), (.ref r_226)])) rfl rfl (hb hby own_d18_14)
  have V227 := Arv.set Ar227 qr227 Sr227 Nr227 Hr227 Gr227 rfl W227 0 rfl (Nat.le_of_ble_eq_true rfl)
  have N227 := Fr.snoc X227 N226 g_r_226
  have O227 := O226.wr W227 g_r_226
  have K227 := K226.wr W227 (Or.inr sz_r_226)
  refine own_go (B := T227.setTop (mkF m 15 #[.val (.ref a), .val (.ref st), .val (.ref r_226), .val (.int (0 : Int32))] [])) (fun t k => st227 _ k) ?_
  refine own_go (B := T227.setTop (mkF m 16 #[.val (.ref a), .val (.ref st), .val (.ref r_226), .val (.int (0 : Int32))] [(.ref a)])) (fun t k => XS.aloadN X227.here hx rfl (hb hby own_d18_15) rfl rfl k) ?_
  refine own_go (B := T227.setTop (mkF m 17 #[.val (.ref a), .val (.ref st), .val (.ref r_226), .val (.int (0 : Int32))] [(.int (0 : Int32)), (.ref a)])) (fun t k => XS.iloadN X227.here hx rfl (hb hby own_d18_16) rfl k) ?_
  refine own_go (B := T227.setTop (mkF m 18 #[.val (.ref a), .val (.ref st), .val (.ref r_226), .val (.int (0 : Int32))] [(.int (1 : Int32)), (.int (0 : Int32)), (.ref a)])) (fun t k => XS.iconst X227.here hx rfl (hb hby own_d18_17) k) ?_
  refine own_go (B := T227.setTop (mkF m 19 #[.val (.ref a), .val (.ref st), .val (.ref r_226), .val (.int (0 : Int32))] [(.int (1 : Int32)), (.ref a)])) (fun t k => XS.iadd X227.here hx rfl (hb hby own_d18_18) rfl k) ?_
  have f229 := (Q226_7.other W227 (Or.inl (Nat.ne_of_lt (Nat.lt_of_lt_of_le lt_a_225 Q226_0))))
  have f230 := (Q226_4.wr W227)
  obtain ⟨T231, h231, X231, e231, W231, st231⟩ := putF X227 hx hZ hown (host := "") (Or.inl (hw _ (List.mem_of_getElem? (i := 82) rfl))) Via.refl e227 f229 f230 (Or.inl (hw _ (List.mem_of_getElem? (i := 83) rfl))) (hw _ (List.mem_of_getElem? (i := 52) rfl)) (ty := .int) (by decide) rfl rfl (g := (mkF m 19 #[.val (.ref a), .val (.ref st), .val (.ref r_226), .val (.int (0 : Int32))] [(.int (1 : Int32)), (.ref a)])) rfl rfl (hb hby own_d18_19)
  have Fw231 := f229.same W231
  have N231 := Fr.snoc X231 N227 G5
  have O231 := O227.wr W231 G5
  have K231 := K227.wr W231 (Or.inl (by simp))
  refine own_go (B := T231.setTop (mkF m 22 #[.val (.ref a), .val (.ref st), .val (.ref r_226), .val (.int (0 : Int32))] [])) (fun t k => st231 _ k) ?_
  obtain ⟨fs, hr, hrun, hended, hW, hsame⟩ := X231.leave (v := none) (fun _ => rfl)
  have f233 := ((Q226_1.wr W227).wr W231)
  have f234 := (V227.other W231 (Ne.symm (Nat.ne_of_lt (Nat.lt_of_lt_of_le lt_a_225 Q226_0))))
  have f235 := (f230.wr W231)
  have f236 := ((Q226_5.other W227 (Or.inl (Nat.ne_of_lt (Nat.lt_of_lt_of_le lt_a_225 Q226_0)))).other W231 (Or.inr (slot_ne (Or.inl (hw _ (List.mem_of_getElem? (i := 71) rfl))) (Or.inl (hw _ (List.mem_of_getElem? (i := 83) rfl))) (by decide) (t := .int) (t' := .int) (by decide) (by decide))))
  have f237 := ((Q226_6.other W227 (Or.inl (Nat.ne_of_lt (Nat.lt_of_lt_of_le lt_a_225 Q226_0)))).other W231 (Or.inr (slot_ne (Or.inl (hw _ (List.mem_of_getElem? (i := 74) rfl))) (Or.inl (hw _ (List.mem_of_getElem? (i := 83) rfl))) (by decide) (t := (.array (.object "java/lang/Object"))) (t' := .int) (by decide) (by decide))))
  refine ⟨_, _, X231.returnOut hx Bd.returns (hb hby own_d18_22) hr, hK _ _ ⟨hrun, hended, _, _, rfl, ?_, ⟨_, rfl⟩, hW, hsame.mono (by decide) (by decide)⟩⟩
  show own_Q_add3 Z a st w_NONE w_DEF w_EMP w_EL w_ELA mir kd ke h0 n0 _ T231.heap _
  rw [e231]
  exact ⟨r_226, kr_226, rfl, N231, K231, sz_r_226, f233, f234, f235, f236, f237, Fw231⟩
theorem own_d17_0 : decode jdk_38_method_25_code 0 = .ok (.aload_n 0, 1) := by decide +kernel
theorem own_d17_1 : decode jdk_38_method_25_code 1 = .ok (.dup, 1) := by decide +kernel
theorem own_d17_2 : decode jdk_38_method_25_code 2 = .ok (.getfield 63, 3) := by decide +kernel
theorem own_d17_5 : decode jdk_38_method_25_code 5 = .ok (.iconst 1, 1) := by decide +kernel
theorem own_d17_6 : decode jdk_38_method_25_code 6 = .ok (.iadd, 1) := by decide +kernel
theorem own_d17_7 : decode jdk_38_method_25_code 7 = .ok (.putfield 63, 3) := by decide +kernel
theorem own_d17_10 : decode jdk_38_method_25_code 10 = .ok (.aload_n 0, 1) := by decide +kernel
theorem own_d17_11 : decode jdk_38_method_25_code 11 = .ok (.aload_n 1, 1) := by decide +kernel
theorem own_d17_12 : decode jdk_38_method_25_code 12 = .ok (.aload_n 0, 1) := by decide +kernel
theorem own_d17_13 : decode jdk_38_method_25_code 13 = .ok (.getfield 9, 3) := by decide +kernel
theorem own_d17_16 : decode jdk_38_method_25_code 16 = .ok (.aload_n 0, 1) := by decide +kernel
theorem own_d17_17 : decode jdk_38_method_25_code 17 = .ok (.getfield 48, 3) := by decide +kernel
theorem own_d17_20 : decode jdk_38_method_25_code 20 = .ok (.invokevirtual 131, 3) := by decide +kernel
theorem own_pd_9 : parseMethodDescriptor "(Ljava/lang/Object;[Ljava/lang/Object;I)V" = some ⟨[(.object "java/lang/Object"), (.array (.object "java/lang/Object")), .int], none⟩ := by decide +kernel
theorem own_d17_23 : decode jdk_38_method_25_code 23 = .ok (.iconst 1, 1) := by decide +kernel
theorem own_d17_24 : decode jdk_38_method_25_code 24 = .ok (.ireturn, 1) := by decide +kernel
theorem own_ef_add1 (m : MethodId) (x0 : Addr) (x1 : Addr)  : entryFrame m #[(.ref x0), (.ref x1)] 2 = mkF m 0 #[.val (.ref x0), .val (.ref x1)] [] := by first | (simp [entryFrame, mkF, argsToLocals, Value.category]; done) | rfl
def own_Q_add1 (Z : State) (a st : Addr) (w_NONE w_DEF w_EMP w_EL w_ELA mir : Addr) (kd ke : ClassId) (h0 : Heap) (n0 : Nat) (v : Option Value) (h : Heap) (L : List Loc) : Prop := ∃ (r : Addr) (kr : ClassId), v = some (.int (1 : Int32)) ∧ Fr n0 L ∧ Keep h0 h [a] ∧ h0.size ≤ r ∧ Exa Z h r "[Ljava/lang/Object;" ∧ Arv Z h r kr (.object "java/lang/Object") (10 : Int32) [(.ref st), .null, .null, .null, .null, .null, .null, .null, .null, .null] .null ∧ Exa Z h a "java/util/ArrayList" ∧ Fld Z h a "java/util/AbstractList" "modCount" "I" (.int (1 : Int32)) ∧ Fld Z h a "java/util/ArrayList" "elementData" "[Ljava/lang/Object;" (.ref r) ∧ Fld Z h a "java/util/ArrayList" "size" "I" (.int (1 : Int32))
set_option maxRecDepth 65536 in
set_option maxHeartbeats 40000000 in
theorem own_rm_add1 (l : Launch) (Z : State) (a0 : Array Value) (hw : ∀ d ∈ tables_1, d.before a0 Z = true) (ws : List Jvm.Cond) (a st : Addr) (w_NONE w_DEF w_EMP w_EL w_ELA mir : Addr) (kd ke : ClassId) (h0 : Heap) (n0 : Nat) (O0 : Old Z n0 h0) (HS : own_St Z w_NONE w_DEF w_EMP w_EL w_ELA mir kd ke) (E1 : Exa Z h0 a "java/util/ArrayList") (F2 : Fld Z h0 a "java/util/AbstractList" "modCount" "I" (.int (0 : Int32))) (F3 : Fld Z h0 a "java/util/ArrayList" "elementData" "[Ljava/lang/Object;" (.ref w_DEF)) (F4 : Fld Z h0 a "java/util/ArrayList" "size" "I" (.int (0 : Int32))) (G5 : n0 ≤ a) (E6 : Exa Z h0 st "com/example/invariant/invariant/State") :
    MetFree l (⟨"java/util/ArrayList", "add", "(Ljava/lang/Object;)Z"⟩ : MethodName) (head1 (Jvm.Cond.code (⟨"java/util/ArrayList", "add", "(Ljava/lang/Object;)Z"⟩ : MethodName) jdk_38_method_25_code 2 (some .boolean) :: ws) ({ frames := 4, cells := 1, slots := 10, locals := 56 } : Room)) (fun ar9 U => ar9 = #[(.ref a), (.ref st)] ∧ Z.Warmed39 U.vm ∧ U.heap = h0) (fun _ _ _ _ _ => True) (fun _ U o U' => ∃ v L, o = .returned v ∧ own_Q_add1 Z a st w_NONE w_DEF w_EMP w_EL w_ELA mir kd ke h0 n0 v U'.heap L ∧ FrameEnd U o U' L ({ frames := 4, cells := 1, slots := 10, locals := 56 } : Room).cells ({ frames := 4, cells := 1, slots := 10, locals := 56 } : Room).slots) := by
  refine MetFree.of_bodySF (plainFor_of_name own_pn_6) hisR ?_
  intro p e s m args below meth c s₁ Bd hml0 hP hK0
  obtain ⟨rfl, hZ, hh⟩ := hP
  have hx := Bd.exec
  have hby := Bd.bytes
  have hml : c.maxLocals = 2 := hml0
  have hown : s.vm.findClass "java/util/ArrayList" = some m.cls := findClass_of_methodNamed Bd.named
  have hnm := (name_of_methodNamed Bd.named Bd.method).1
  have X0 : Stand p l e ({ frames := 4, cells := 1, slots := 10, locals := 56 } : Room) s m #[(.ref a), (.ref st)] below meth c s₁ [] 0 0 := Stand.of_body Bd
  have e0 : s₁.heap = h0 := by rw [← hh, Bd.state]; rfl
  have N0 := Fr.nil n0
  have K0 := Keep.refl h0 [a]
  refine own_open fun K hK => ?_
  refine own_go (B := s₁.setTop (mkF m 0 #[.val (.ref a), .val (.ref st)] [])) (fun t k => castTop (own_ef_add1 m a st) k) ?_
  refine own_go (B := s₁.setTop (mkF m 1 #[.val (.ref a), .val (.ref st)] [(.ref a)])) (fun t k => XS.aloadN X0.here hx rfl (hb hby own_d17_0) rfl rfl k) ?_
  refine own_go (B := s₁.setTop (mkF m 2 #[.val (.ref a), .val (.ref st)] [(.ref a), (.ref a)])) (fun t k => XS.dup X0.here hx rfl (hb hby own_d17_1) rfl rfl k) ?_
  obtain ⟨T238, X238, e238, st238⟩ := getF X0 hx hZ hown (host := "") (Or.inl (hw _ (List.mem_of_getElem? (i := 80) rfl))) (Via.of (hw _ (List.mem_of_getElem? (i := 81) rfl))) e0 F2 (g := (mkF m 2 #[.val (.ref a), .val (.ref st)] [(.ref a), (.ref a)])) rfl rfl (hb hby own_d17_2)
  refine own_go (B := T238.setTop (mkF m 5 #[.val (.ref a), .val (.ref st)] [(.int (0 : Int32)), (.ref a)])) (fun t k => st238 _ k) ?_
  refine own_go (B := T238.setTop (mkF m 6 #[.val (.ref a), .val (.ref st)] [(.int (1 : Int32)), (.int (0 : Int32)), (.ref a)])) (fun t k => XS.iconst X238.here hx rfl (hb hby own_d17_5) k) ?_
  refine own_go (B := T238.setTop (mkF m 7 #[.val (.ref a), .val (.ref st)] [(.int (1 : Int32)), (.ref a)])) (fun t k => XS.iadd X238.here hx rfl (hb hby own_d17_6) rfl k) ?_
  obtain ⟨T239, h239, X239, e239, W239, st239⟩ := putF X238 hx hZ hown (host := "") (Or.inl (hw _ (List.mem_of_getElem? (i := 80) rfl))) (Via.of (hw _ (List.mem_of_getElem? (i := 81) rfl))) e238 F2 E1 (Or.inl (hw _ (List.mem_of_getElem? (i := 71) rfl))) (hw _ (List.mem_of_getElem? (i := 52) rfl)) (ty := .int) (by decide) rfl rfl (g := (mkF m 7 #[.val (.ref a), .val (.ref st)] [(.int (1 : Int32)), (.ref a)])) rfl rfl (hb hby own_d17_7)
  have Fw239 := F2.same W239
  have N239 := Fr.snoc X239 N0 G5
  have O239 := O0.wr W239 G5
  have K239 := K0.wr W239 (Or.inl (by simp))
  refine own_go (B := T239.setTop (mkF m 10 #[.val (.ref a), .val (.ref st)] [])) (fun t k => st239 _ k) ?_
  refine own_go (B := T239.setTop (mkF m 11 #[.val (.ref a), .val (.ref st)] [(.ref a)])) (fun t k => XS.aloadN X239.here hx rfl (hb hby own_d17_10) rfl rfl k) ?_
  refine own_go (B := T239.setTop (mkF m 12 #[.val (.ref a), .val (.ref st)] [(.ref st), (.ref a)])) (fun t k => XS.aloadN X239.here hx rfl (hb hby own_d17_11) rfl rfl k) ?_
  refine own_go (B := T239.setTop (mkF m 13 #[.val (.ref a), .val (.ref st)] [(.ref a), (.ref st), (.ref a)])) (fun t k => XS.aloadN X239.here hx rfl (hb hby own_d17_12) rfl rfl k) ?_
  have f240 := (F3.other W239 (Or.inr (slot_ne (Or.inl (hw _ (List.mem_of_getElem? (i := 74) rfl))) (Or.inl (hw _ (List.mem_of_getElem? (i := 71) rfl))) (by decide) (t := (.array (.object "java/lang/Object"))) (t' := .int) (by decide) (by decide))))
  obtain ⟨T241, X241, e241, st241⟩ := getF X239 hx hZ hown (host := "") (Or.inl (hw _ (List.mem_of_getElem? (i := 73) rfl))) Via.refl e239 f240 (g := (mkF m 13 #[.val (.ref a), .val (.ref st)] [(.ref a), (.ref st), (.ref a)])) rfl rfl (hb hby own_d17_13)
  refine own_go (B := T241.setTop (mkF m 16 #[.val (.ref a), .val (.ref st)] [(.ref w_DEF), (.ref st), (.ref a)])) (fun t k => st241 _ k) ?_
  refine own_go (B := T241.setTop (mkF m 17 #[.val (.ref a), .val (.ref st)] [(.ref a), (.ref w_DEF), (.ref st), (.ref a)])) (fun t k => XS.aloadN X241.here hx rfl (hb hby own_d17_16) rfl rfl k) ?_
  have f242 := (F4.other W239 (Or.inr (slot_ne (Or.inl (hw _ (List.mem_of_getElem? (i := 83) rfl))) (Or.inl (hw _ (List.mem_of_getElem? (i := 71) rfl))) (by decide) (t := .int) (t' := .int) (by decide) (by decide))))
  obtain ⟨T243, X243, e243, st243⟩ := getF X241 hx hZ hown (host := "") (Or.inl (hw _ (List.mem_of_getElem? (i := 82) rfl))) Via.refl e241 f242 (g := (mkF m 17 #[.val (.ref a), .val (.ref st)] [(.ref a), (.ref w_DEF), (.ref st), (.ref a)])) rfl rfl (hb hby own_d17_17)
  refine own_go (B := T243.setTop (mkF m 20 #[.val (.ref a), .val (.ref st)] [(.int (0 : Int32)), (.ref w_DEF), (.ref st), (.ref a)])) (fun t k => st243 _ k) ?_
  have f244 := (E1.wr W239)
  have f245 := (E6.wr W239)
  have lt_a_246 := f244.lt
  have lt_st_246 := f245.lt
  obtain ⟨cq247, q247, q247'⟩ := f244.cell
  obtain ⟨_, _, ⟨T247, L247, k247, n247⟩, -, X247, ⟨Lc247, hQ247, l247, y247, z247⟩, st247⟩ := X243.privateBack hx (y := (⟨"java/util/ArrayList", "add", "(Ljava/lang/Object;[Ljava/lang/Object;I)V"⟩ : MethodName)) hown (mvT hZ (hw _ (List.mem_of_getElem? (i := 84) rfl))) (mvT hZ (hw _ (List.mem_of_getElem? (i := 85) rfl))) (mvT hZ (hw _ (List.mem_of_getElem? (i := 87) rfl))) (Cond.privateMethod_at (mvP hZ (hw _ (List.mem_of_getElem? (i := 86) rfl)) (args := #[]))) (mvT hZ (hw _ (List.mem_of_getElem? (i := 88) rfl))) (by decide) (backOf (W := 0) (own_rm_add3 l Z a0 hw [] a st w_NONE w_DEF w_EMP w_EL w_ELA mir kd ke h239 n0 O239 HS f244 Fw239 f240 f242 G5 f245) hZ (hw _ (List.mem_of_getElem? (i := 88) rfl)) (hw _ (List.mem_of_getElem? (i := 53) rfl)) (by decide) (by decide)) (g := (mkF m 20 #[.val (.ref a), .val (.ref st)] [(.int (0 : Int32)), (.ref w_DEF), (.ref st), (.ref a)])) rfl (by rw [hml]; rfl) (Steps.refl _) (a := a) (by rw [e243]; exact q247) q247' (argsL := [(.ref st), (.ref w_DEF), (.int (0 : Int32))]) (rest := []) (lenOf own_pd_9 rfl) rfl (by show 2 * 0 + _ ≤ _; exact Nat.le_of_eq rfl) (hb hby own_d17_20) (fun _ _ => ⟨rfl, e243, (by decide : 0 + 1 ≤ _), (by decide : 0 + 10 ≤ _)⟩)
  dsimp only [Pt.U, Pt.locs, Pt.cells, Pt.slots] at X247 l247 y247 z247 st247 hQ247
  subst l247 y247 z247
  obtain ⟨r_247, kr_247, rfl, N247q, Kc247, Q247_0, Q247_1, Q247_2, Q247_3, Q247_4, Q247_5, Q247_6⟩ := hQ247
  have O247 := O239.keep Kc247 (allS G5 all0)
  have K247 := K239.trans Kc247 (allS (Or.inl (by simp)) all0)
  have N247 := Fr.app N239 N247q
  refine own_go (B := T247.setTop (mkF m 23 #[.val (.ref a), .val (.ref st)] [])) (fun t k => st247.trans k) ?_
  have g_r_247 : n0 ≤ r_247 := Nat.le_trans (own_n0 O239) Q247_0
  have sz_r_247 : h0.size ≤ r_247 := Nat.le_trans K239.1 Q247_0
  refine own_go (B := T247.setTop (mkF m 24 #[.val (.ref a), .val (.ref st)] [(.int (1 : Int32))])) (fun t k => XS.iconst X247.here hx rfl (hb hby own_d17_23) k) ?_
  obtain ⟨fs, hr, hrun, hended, hW, hsame⟩ := X247.leave (v := some (.int (1 : Int32))) (fun h => by rw [Bd.returns] at h; cases h)
  refine ⟨_, _, retN X247 hx (t := .boolean) Bd.returns (by simp) (hb hby own_d17_24) hr, hK _ _ ⟨hrun, hended, _, _, rfl, ?_, ⟨_, rfl⟩, hW, hsame.mono (by decide) (by decide)⟩⟩
  show own_Q_add1 Z a st w_NONE w_DEF w_EMP w_EL w_ELA mir kd ke h0 n0 _ T247.heap _
  exact ⟨r_247, kr_247, rfl, N247, K247, sz_r_247, Q247_1, Q247_2, Q247_3, Q247_4, Q247_5, Q247_6⟩
theorem own_d22_0 : decode jdk_38_method_8_code 0 = .ok (.aload_n 0, 1) := by decide +kernel
theorem own_d22_1 : decode jdk_38_method_8_code 1 = .ok (.getfield 48, 3) := by decide +kernel
theorem own_d22_4 : decode jdk_38_method_8_code 4 = .ok (.ireturn, 1) := by decide +kernel
theorem own_ef_alsize (m : MethodId) (x0 : Addr)  : entryFrame m #[(.ref x0)] 1 = mkF m 0 #[.val (.ref x0)] [] := by first | (simp [entryFrame, mkF, argsToLocals, Value.category]; done) | rfl
def own_Q_alsize (Z : State) (a : Addr) (r : Int32) (h0 : Heap) (n0 : Nat) (v : Option Value) (h : Heap) (L : List Loc) : Prop := v = some (.int r) ∧ Fr n0 L ∧ h = h0
set_option maxRecDepth 65536 in
set_option maxHeartbeats 40000000 in
theorem own_rm_alsize (l : Launch) (Z : State) (a0 : Array Value) (hw : ∀ d ∈ tables_1, d.before a0 Z = true) (ws : List Jvm.Cond) (a : Addr) (r : Int32) (h0 : Heap) (n0 : Nat) (O0 : Old Z n0 h0) (F0 : Fld Z h0 a "java/util/ArrayList" "size" "I" (.int r)) :
    MetFree l (⟨"java/util/ArrayList", "size", "()I"⟩ : MethodName) (head1 (Jvm.Cond.code (⟨"java/util/ArrayList", "size", "()I"⟩ : MethodName) jdk_38_method_8_code 1 (some .int) :: ws) ({ frames := 0, cells := 0, slots := 0, locals := 0 } : Room)) (fun ar9 U => ar9 = #[(.ref a)] ∧ Z.Warmed39 U.vm ∧ U.heap = h0) (fun _ _ _ _ _ => True) (fun _ U o U' => ∃ v L, o = .returned v ∧ own_Q_alsize Z a r h0 n0 v U'.heap L ∧ FrameEnd U o U' L ({ frames := 0, cells := 0, slots := 0, locals := 0 } : Room).cells ({ frames := 0, cells := 0, slots := 0, locals := 0 } : Room).slots) := by
  refine MetFree.of_bodySF (plainFor_of_name own_pn_6) hisR ?_
  intro p e s m args below meth c s₁ Bd hml0 hP hK0
  obtain ⟨rfl, hZ, hh⟩ := hP
  have hx := Bd.exec
  have hby := Bd.bytes
  have hml : c.maxLocals = 1 := hml0
  have hown : s.vm.findClass "java/util/ArrayList" = some m.cls := findClass_of_methodNamed Bd.named
  have hnm := (name_of_methodNamed Bd.named Bd.method).1
  have X0 : Stand p l e ({ frames := 0, cells := 0, slots := 0, locals := 0 } : Room) s m #[(.ref a)] below meth c s₁ [] 0 0 := Stand.of_body Bd
  have e0 : s₁.heap = h0 := by rw [← hh, Bd.state]; rfl
  have N0 := Fr.nil n0
  refine own_open fun K hK => ?_
  refine own_go (B := s₁.setTop (mkF m 0 #[.val (.ref a)] [])) (fun t k => castTop (own_ef_alsize m a) k) ?_
  refine own_go (B := s₁.setTop (mkF m 1 #[.val (.ref a)] [(.ref a)])) (fun t k => XS.aloadN X0.here hx rfl (hb hby own_d22_0) rfl rfl k) ?_
  obtain ⟨T249, X249, e249, st249⟩ := getF X0 hx hZ hown (host := "") (Or.inl (hw _ (List.mem_of_getElem? (i := 82) rfl))) Via.refl e0 F0 (g := (mkF m 1 #[.val (.ref a)] [(.ref a)])) rfl rfl (hb hby own_d22_1)
  refine own_go (B := T249.setTop (mkF m 4 #[.val (.ref a)] [(.int r)])) (fun t k => st249 _ k) ?_
  obtain ⟨fs, hr, hrun, hended, hW, hsame⟩ := X249.leave (v := some (.int r)) (fun h => by rw [Bd.returns] at h; cases h)
  refine ⟨_, _, own_retI X249 hx Bd.returns (hb hby own_d22_4) hr, hK _ _ ⟨hrun, hended, _, _, rfl, ?_, ⟨_, rfl⟩, hW, hsame.mono (by decide) (by decide)⟩⟩
  show own_Q_alsize Z a r h0 n0 _ T249.heap _
  rw [e249]
  exact ⟨rfl, N0, rfl⟩
theorem own_d21_0 : decode jdk_38_method_9_code 0 = .ok (.aload_n 0, 1) := by decide +kernel
theorem own_d21_1 : decode jdk_38_method_9_code 1 = .ok (.getfield 48, 3) := by decide +kernel
theorem own_d21_4 : decode jdk_38_method_9_code 4 = .ok (.ifCond .ne 7, 3) := by decide +kernel
theorem own_d21_7 : decode jdk_38_method_9_code 7 = .ok (.iconst 1, 1) := by decide +kernel
theorem own_d21_8 : decode jdk_38_method_9_code 8 = .ok (.goto 4, 3) := by decide +kernel
theorem own_d21_12 : decode jdk_38_method_9_code 12 = .ok (.ireturn, 1) := by decide +kernel
theorem own_ef_empty0 (m : MethodId) (x0 : Addr)  : entryFrame m #[(.ref x0)] 1 = mkF m 0 #[.val (.ref x0)] [] := by first | (simp [entryFrame, mkF, argsToLocals, Value.category]; done) | rfl
def own_Q_empty0 (Z : State) (a : Addr) (h0 : Heap) (n0 : Nat) (v : Option Value) (h : Heap) (L : List Loc) : Prop := v = some (.int (1 : Int32)) ∧ Fr n0 L ∧ h = h0
set_option maxRecDepth 65536 in
set_option maxHeartbeats 40000000 in
theorem own_rm_empty0 (l : Launch) (Z : State) (a0 : Array Value) (hw : ∀ d ∈ tables_1, d.before a0 Z = true) (ws : List Jvm.Cond) (a : Addr) (h0 : Heap) (n0 : Nat) (O0 : Old Z n0 h0) (F0 : Fld Z h0 a "java/util/ArrayList" "size" "I" (.int (0 : Int32))) :
    MetFree l (⟨"java/util/ArrayList", "isEmpty", "()Z"⟩ : MethodName) (head1 (Jvm.Cond.code (⟨"java/util/ArrayList", "isEmpty", "()Z"⟩ : MethodName) jdk_38_method_9_code 1 (some .boolean) :: ws) ({ frames := 0, cells := 0, slots := 0, locals := 0 } : Room)) (fun ar9 U => ar9 = #[(.ref a)] ∧ Z.Warmed39 U.vm ∧ U.heap = h0) (fun _ _ _ _ _ => True) (fun _ U o U' => ∃ v L, o = .returned v ∧ own_Q_empty0 Z a h0 n0 v U'.heap L ∧ FrameEnd U o U' L ({ frames := 0, cells := 0, slots := 0, locals := 0 } : Room).cells ({ frames := 0, cells := 0, slots := 0, locals := 0 } : Room).slots) := by
  refine MetFree.of_bodySF (plainFor_of_name own_pn_6) hisR ?_
  intro p e s m args below meth c s₁ Bd hml0 hP hK0
  obtain ⟨rfl, hZ, hh⟩ := hP
  have hx := Bd.exec
  have hby := Bd.bytes
  have hml : c.maxLocals = 1 := hml0
  have hown : s.vm.findClass "java/util/ArrayList" = some m.cls := findClass_of_methodNamed Bd.named
  have hnm := (name_of_methodNamed Bd.named Bd.method).1
  have X0 : Stand p l e ({ frames := 0, cells := 0, slots := 0, locals := 0 } : Room) s m #[(.ref a)] below meth c s₁ [] 0 0 := Stand.of_body Bd
  have e0 : s₁.heap = h0 := by rw [← hh, Bd.state]; rfl
  have N0 := Fr.nil n0
  refine own_open fun K hK => ?_
  refine own_go (B := s₁.setTop (mkF m 0 #[.val (.ref a)] [])) (fun t k => castTop (own_ef_empty0 m a) k) ?_
  refine own_go (B := s₁.setTop (mkF m 1 #[.val (.ref a)] [(.ref a)])) (fun t k => XS.aloadN X0.here hx rfl (hb hby own_d21_0) rfl rfl k) ?_
  obtain ⟨T251, X251, e251, st251⟩ := getF X0 hx hZ hown (host := "") (Or.inl (hw _ (List.mem_of_getElem? (i := 82) rfl))) Via.refl e0 F0 (g := (mkF m 1 #[.val (.ref a)] [(.ref a)])) rfl rfl (hb hby own_d21_1)
  refine own_go (B := T251.setTop (mkF m 4 #[.val (.ref a)] [(.int (0 : Int32))])) (fun t k => st251 _ k) ?_
  refine own_go (B := T251.setTop (mkF m 7 #[.val (.ref a)] [])) (fun t k => XS.ifNo X251.here hx rfl (hb hby own_d21_4) rfl ((if0 _ _).trans (teq (by decide : (0 : Int32) = (0 : Int32))).2) k) ?_
  refine own_go (B := T251.setTop (mkF m 8 #[.val (.ref a)] [(.int (1 : Int32))])) (fun t k => XS.iconst X251.here hx rfl (hb hby own_d21_7) k) ?_
  refine own_go (B := T251.setTop (mkF m 12 #[.val (.ref a)] [(.int (1 : Int32))])) (fun t k => XS.goto X251.here hx rfl (pc0 := 8) (pc' := 12) rfl (hb hby own_d21_8) (by decide) (by decide) k) ?_
  obtain ⟨fs, hr, hrun, hended, hW, hsame⟩ := X251.leave (v := some (.int (1 : Int32))) (fun h => by rw [Bd.returns] at h; cases h)
  refine ⟨_, _, retN X251 hx (t := .boolean) Bd.returns (by simp) (hb hby own_d21_12) hr, hK _ _ ⟨hrun, hended, _, _, rfl, ?_, ⟨_, rfl⟩, hW, hsame.mono (by decide) (by decide)⟩⟩
  show own_Q_empty0 Z a h0 n0 _ T251.heap _
  rw [e251]
  exact ⟨rfl, N0, rfl⟩
theorem own_d21_11 : decode jdk_38_method_9_code 11 = .ok (.iconst 0, 1) := by decide +kernel
theorem own_ef_empty1 (m : MethodId) (x0 : Addr)  : entryFrame m #[(.ref x0)] 1 = mkF m 0 #[.val (.ref x0)] [] := by first | (simp [entryFrame, mkF, argsToLocals, Value.category]; done) | rfl
def own_Q_empty1 (Z : State) (a : Addr) (h0 : Heap) (n0 : Nat) (v : Option Value) (h : Heap) (L : List Loc) : Prop := v = some (.int (0 : Int32)) ∧ Fr n0 L ∧ h = h0
set_option maxRecDepth 65536 in
set_option maxHeartbeats 40000000 in
theorem own_rm_empty1 (l : Launch) (Z : State) (a0 : Array Value) (hw : ∀ d ∈ tables_1, d.before a0 Z = true) (ws : List Jvm.Cond) (a : Addr) (h0 : Heap) (n0 : Nat) (O0 : Old Z n0 h0) (F0 : Fld Z h0 a "java/util/ArrayList" "size" "I" (.int (1 : Int32))) :
    MetFree l (⟨"java/util/ArrayList", "isEmpty", "()Z"⟩ : MethodName) (head1 (Jvm.Cond.code (⟨"java/util/ArrayList", "isEmpty", "()Z"⟩ : MethodName) jdk_38_method_9_code 1 (some .boolean) :: ws) ({ frames := 0, cells := 0, slots := 0, locals := 0 } : Room)) (fun ar9 U => ar9 = #[(.ref a)] ∧ Z.Warmed39 U.vm ∧ U.heap = h0) (fun _ _ _ _ _ => True) (fun _ U o U' => ∃ v L, o = .returned v ∧ own_Q_empty1 Z a h0 n0 v U'.heap L ∧ FrameEnd U o U' L ({ frames := 0, cells := 0, slots := 0, locals := 0 } : Room).cells ({ frames := 0, cells := 0, slots := 0, locals := 0 } : Room).slots) := by
  refine MetFree.of_bodySF (plainFor_of_name own_pn_6) hisR ?_
  intro p e s m args below meth c s₁ Bd hml0 hP hK0
  obtain ⟨rfl, hZ, hh⟩ := hP
  have hx := Bd.exec
  have hby := Bd.bytes
  have hml : c.maxLocals = 1 := hml0
  have hown : s.vm.findClass "java/util/ArrayList" = some m.cls := findClass_of_methodNamed Bd.named
  have hnm := (name_of_methodNamed Bd.named Bd.method).1
  have X0 : Stand p l e ({ frames := 0, cells := 0, slots := 0, locals := 0 } : Room) s m #[(.ref a)] below meth c s₁ [] 0 0 := Stand.of_body Bd
  have e0 : s₁.heap = h0 := by rw [← hh, Bd.state]; rfl
  have N0 := Fr.nil n0
  refine own_open fun K hK => ?_
  refine own_go (B := s₁.setTop (mkF m 0 #[.val (.ref a)] [])) (fun t k => castTop (own_ef_empty1 m a) k) ?_
  refine own_go (B := s₁.setTop (mkF m 1 #[.val (.ref a)] [(.ref a)])) (fun t k => XS.aloadN X0.here hx rfl (hb hby own_d21_0) rfl rfl k) ?_
  obtain ⟨T254, X254, e254, st254⟩ := getF X0 hx hZ hown (host := "") (Or.inl (hw _ (List.mem_of_getElem? (i := 82) rfl))) Via.refl e0 F0 (g := (mkF m 1 #[.val (.ref a)] [(.ref a)])) rfl rfl (hb hby own_d21_1)
  refine own_go (B := T254.setTop (mkF m 4 #[.val (.ref a)] [(.int (1 : Int32))])) (fun t k => st254 _ k) ?_
  refine own_go (B := T254.setTop (mkF m 11 #[.val (.ref a)] [])) (fun t k => XS.ifYes X254.here hx rfl (pc0 := 4) (pc' := 11) rfl (hb hby own_d21_4) rfl ((if0 _ _).trans (feq (by decide : ¬ ((1 : Int32) = (0 : Int32)))).2) (by decide) (by decide) k) ?_
  refine own_go (B := T254.setTop (mkF m 12 #[.val (.ref a)] [(.int (0 : Int32))])) (fun t k => XS.iconst X254.here hx rfl (hb hby own_d21_11) k) ?_
  obtain ⟨fs, hr, hrun, hended, hW, hsame⟩ := X254.leave (v := some (.int (0 : Int32))) (fun h => by rw [Bd.returns] at h; cases h)
  refine ⟨_, _, retN X254 hx (t := .boolean) Bd.returns (by simp) (hb hby own_d21_12) hr, hK _ _ ⟨hrun, hended, _, _, rfl, ?_, ⟨_, rfl⟩, hW, hsame.mono (by decide) (by decide)⟩⟩
  show own_Q_empty1 Z a h0 n0 _ T254.heap _
  rw [e254]
  exact ⟨rfl, N0, rfl⟩
theorem own_d25_0 : decode jdk_65_method_120_code 0 = .ok (.aload_n 2, 1) := by decide +kernel
theorem own_d25_1 : decode jdk_65_method_120_code 1 = .ok (.ldc 110, 2) := by decide +kernel
theorem own_d25_3 : decode jdk_65_method_120_code 3 = .ok (.if_acmp .ne 10, 3) := by decide +kernel
theorem own_d25_6 : decode jdk_65_method_120_code 6 = .ok (.iload_n 1, 1) := by decide +kernel
theorem own_d25_7 : decode jdk_65_method_120_code 7 = .ok (.anewarray 2, 3) := by decide +kernel
theorem own_d25_10 : decode jdk_65_method_120_code 10 = .ok (.goto 14, 3) := by decide +kernel
theorem own_d25_24 : decode jdk_65_method_120_code 24 = .ok (.astore_n 3, 1) := by decide +kernel
theorem own_d25_25 : decode jdk_65_method_120_code 25 = .ok (.aload_n 0, 1) := by decide +kernel
theorem own_d25_26 : decode jdk_65_method_120_code 26 = .ok (.iconst 0, 1) := by decide +kernel
theorem own_d25_27 : decode jdk_65_method_120_code 27 = .ok (.aload_n 3, 1) := by decide +kernel
theorem own_d25_28 : decode jdk_65_method_120_code 28 = .ok (.iconst 0, 1) := by decide +kernel
theorem own_d25_29 : decode jdk_65_method_120_code 29 = .ok (.aload_n 0, 1) := by decide +kernel
theorem own_d25_30 : decode jdk_65_method_120_code 30 = .ok (.arraylength, 1) := by decide +kernel
theorem own_d25_31 : decode jdk_65_method_120_code 31 = .ok (.iload_n 1, 1) := by decide +kernel
theorem own_d25_32 : decode jdk_65_method_120_code 32 = .ok (.invokestatic 304, 3) := by decide +kernel
theorem own_d25_35 : decode jdk_65_method_120_code 35 = .ok (.invokestatic 150, 3) := by decide +kernel
theorem own_d25_38 : decode jdk_65_method_120_code 38 = .ok (.aload_n 3, 1) := by decide +kernel
theorem own_d25_39 : decode jdk_65_method_120_code 39 = .ok (.areturn, 1) := by decide +kernel
theorem own_ef_copy3 (m : MethodId) (x0 : Addr) (x1 : Int32) (x2 : Addr)  : entryFrame m #[(.ref x0), (.int x1), (.ref x2)] 4 = mkF m 0 #[.val (.ref x0), .val (.int x1), .val (.ref x2), .unset] [] := by first | (simp [entryFrame, mkF, argsToLocals, Value.category]; done) | rfl
def own_Q_copy3 (Z : State) (b st : Addr) (kb : ClassId) (w_NONE w_DEF w_EMP w_EL w_ELA mir : Addr) (kd ke : ClassId) (h0 : Heap) (n0 : Nat) (v : Option Value) (h : Heap) (L : List Loc) : Prop := ∃ (r : Addr) (kr : ClassId), v = some (.ref r) ∧ Fr n0 L ∧ Ext h0 h ∧ h0.size ≤ r ∧ Exa Z h r "[Ljava/lang/Object;" ∧ Arv Z h r kr (.object "java/lang/Object") (1 : Int32) [(.ref st)] .null
set_option maxRecDepth 65536 in
set_option maxHeartbeats 40000000 in
theorem own_rm_copy3 (l : Launch) (Z : State) (a0 : Array Value) (hw : ∀ d ∈ tables_1, d.before a0 Z = true) (ws : List Jvm.Cond) (b st : Addr) (kb : ClassId) (w_NONE w_DEF w_EMP w_EL w_ELA mir : Addr) (kd ke : ClassId) (h0 : Heap) (n0 : Nat) (O0 : Old Z n0 h0) (HS : own_St Z w_NONE w_DEF w_EMP w_EL w_ELA mir kd ke) (E1 : Exa Z h0 b "[Ljava/lang/Object;") (A2 : Arv Z h0 b kb (.object "java/lang/Object") (10 : Int32) [(.ref st), .null, .null, .null, .null, .null, .null, .null, .null, .null] .null) (E3 : Exa Z h0 st "com/example/invariant/invariant/State") :
    MetFree l (⟨"java/util/Arrays", "copyOf", "([Ljava/lang/Object;ILjava/lang/Class;)[Ljava/lang/Object;"⟩ : MethodName) (head1 (Jvm.Cond.code (⟨"java/util/Arrays", "copyOf", "([Ljava/lang/Object;ILjava/lang/Class;)[Ljava/lang/Object;"⟩ : MethodName) jdk_65_method_120_code 4 (some (.array (.object "java/lang/Object"))) :: ws) ({ frames := 1, cells := 1, slots := 1, locals := 60 } : Room)) (fun ar9 U => ar9 = #[(.ref b), (.int (1 : Int32)), (.ref mir)] ∧ Z.Warmed39 U.vm ∧ U.heap = h0) (fun _ _ _ _ _ => True) (fun _ U o U' => ∃ v L, o = .returned v ∧ own_Q_copy3 Z b st kb w_NONE w_DEF w_EMP w_EL w_ELA mir kd ke h0 n0 v U'.heap L ∧ FrameEnd U o U' L ({ frames := 1, cells := 1, slots := 1, locals := 60 } : Room).cells ({ frames := 1, cells := 1, slots := 1, locals := 60 } : Room).slots) := by
  refine MetFree.of_bodySF (plainFor_of_name own_pn_2) hisR ?_
  intro p e s m args below meth c s₁ Bd hml0 hP hK0
  obtain ⟨rfl, hZ, hh⟩ := hP
  have hx := Bd.exec
  have hby := Bd.bytes
  have hml : c.maxLocals = 4 := hml0
  have hown : s.vm.findClass "java/util/Arrays" = some m.cls := findClass_of_methodNamed Bd.named
  have hnm := (name_of_methodNamed Bd.named Bd.method).1
  have X0 : Stand p l e ({ frames := 1, cells := 1, slots := 1, locals := 60 } : Room) s m #[(.ref b), (.int (1 : Int32)), (.ref mir)] below meth c s₁ [] 0 0 := Stand.of_body Bd
  have e0 : s₁.heap = h0 := by rw [← hh, Bd.state]; rfl
  have N0 := Fr.nil n0
  have K0 := Keep.refl h0 []
  refine own_open fun K hK => ?_
  refine own_go (B := s₁.setTop (mkF m 0 #[.val (.ref b), .val (.int (1 : Int32)), .val (.ref mir), .unset] [])) (fun t k => castTop (own_ef_copy3 m b (1 : Int32) mir) k) ?_
  refine own_go (B := s₁.setTop (mkF m 1 #[.val (.ref b), .val (.int (1 : Int32)), .val (.ref mir), .unset] [(.ref mir)])) (fun t k => XS.aloadN X0.here hx rfl (hb hby own_d25_0) rfl rfl k) ?_
  obtain ⟨vm257, X257, st257⟩ := X0.ldcMirror hx hown (mvT hZ (hw _ (List.mem_of_getElem? (i := 168) rfl))) (HS.2.2.2.2.2.2.2.2.2.2.2.s hZ).ev (g := (mkF m 1 #[.val (.ref b), .val (.int (1 : Int32)), .val (.ref mir), .unset] [(.ref mir)])) rfl (hb hby own_d25_1)
  obtain ⟨T257, hT257⟩ : ∃ z, z = s₁.setVm vm257 := ⟨_, rfl⟩
  rw [← hT257] at X257 st257
  have e257 : T257.heap = h0 := by rw [hT257]; exact e0
  refine own_go (B := T257.setTop (mkF m 3 #[.val (.ref b), .val (.int (1 : Int32)), .val (.ref mir), .unset] [(.ref mir), (.ref mir)])) (fun t k => st257 _ k) ?_
  refine own_go (B := T257.setTop (mkF m 6 #[.val (.ref b), .val (.int (1 : Int32)), .val (.ref mir), .unset] [])) (fun t k => Jvm.RoadKit.acmp (g := (mkF m 3 #[.val (.ref b), .val (.int (1 : Int32)), .val (.ref mir), .unset] [(.ref mir), (.ref mir)])) X257 hx rfl rfl rfl (pc0 := 3) (pc' := 6) (same := true) rfl (hb hby own_d25_3) rfl (decide_eq_true rfl) (by decide) (by decide) k) ?_
  refine own_go (B := T257.setTop (mkF m 7 #[.val (.ref b), .val (.int (1 : Int32)), .val (.ref mir), .unset] [(.int (1 : Int32))])) (fun t k => XS.iloadN X257.here hx rfl (hb hby own_d25_6) rfl k) ?_
  obtain ⟨T258, h258, k258, X258, e258, E258, A258, Ov258, Ex258, st258⟩ := own_newR X257 hx hZ (A := "[Ljava/lang/Object;") (by decide) hown (hw _ (List.mem_of_getElem? (i := 169) rfl)) (hw _ (List.mem_of_getElem? (i := 104) rfl)) e257 (g := (mkF m 7 #[.val (.ref b), .val (.int (1 : Int32)), .val (.ref mir), .unset] [(.int (1 : Int32))])) rfl (hb hby own_d25_7) rfl (by decide) (cap := 1) (by decide) (by decide) (by decide) (by decide)
  obtain ⟨b258, g258⟩ : ∃ z, z = h0.size := ⟨_, rfl⟩
  rw [← g258] at A258 Ex258 st258
  have lt_b_258 := E1.lt
  have lt_st_258 := E3.lt
  have g_b258 : n0 ≤ b258 := Nat.le_trans (own_n0 O0) (Nat.le_of_eq g258.symm)
  have O258 := O0.ext E258
  have sz_b258 : h0.size ≤ b258 := Nat.le_trans K0.1 (Nat.le_of_eq g258.symm)
  have K258 := K0.ext E258
  have V258 := (Arv.new A258 (by decide)).pad (pad_rep [] .null 1)
  refine own_go (B := T258.setTop (mkF m 10 #[.val (.ref b), .val (.int (1 : Int32)), .val (.ref mir), .unset] [(.ref b258)])) (fun t k => st258 _ k) ?_
  refine own_go (B := T258.setTop (mkF m 24 #[.val (.ref b), .val (.int (1 : Int32)), .val (.ref mir), .unset] [(.ref b258)])) (fun t k => XS.goto X258.here hx rfl (pc0 := 10) (pc' := 24) rfl (hb hby own_d25_10) (by decide) (by decide) k) ?_
  refine own_go (B := T258.setTop (mkF m 25 #[.val (.ref b), .val (.int (1 : Int32)), .val (.ref mir), .val (.ref b258)] [])) (fun t k => XS.astoreN X258.here hx rfl (hb hby own_d25_24) rfl rfl (l' := #[.val (.ref b), .val (.int (1 : Int32)), .val (.ref mir), .val (.ref b258)]) rfl k) ?_
  refine own_go (B := T258.setTop (mkF m 26 #[.val (.ref b), .val (.int (1 : Int32)), .val (.ref mir), .val (.ref b258)] [(.ref b)])) (fun t k => XS.aloadN X258.here hx rfl (hb hby own_d25_25) rfl rfl k) ?_
  refine own_go (B := T258.setTop (mkF m 27 #[.val (.ref b), .val (.int (1 : Int32)), .val (.ref mir), .val (.ref b258)] [(.int (0 : Int32)), (.ref b)])) (fun t k => XS.iconst X258.here hx rfl (hb hby own_d25_26) k) ?_
  refine own_go (B := T258.setTop (mkF m 28 #[.val (.ref b), .val (.int (1 : Int32)), .val (.ref mir), .val (.ref b258)] [(.ref b258), (.int (0 : Int32)), (.ref b)])) (fun t k => XS.aloadN X258.here hx rfl (hb hby own_d25_27) rfl rfl k) ?_
  refine own_go (B := T258.setTop (mkF m 29 #[.val (.ref b), .val (.int (1 : Int32)), .val (.ref mir), .val (.ref b258)] [(.int (0 : Int32)), (.ref b258), (.int (0 : Int32)), (.ref b)])) (fun t k => XS.iconst X258.here hx rfl (hb hby own_d25_28) k) ?_
  refine own_go (B := T258.setTop (mkF m 30 #[.val (.ref b), .val (.int (1 : Int32)), .val (.ref mir), .val (.ref b258)] [(.ref b), (.int (0 : Int32)), (.ref b258), (.int (0 : Int32)), (.ref b)])) (fun t k => XS.aloadN X258.here hx rfl (hb hby own_d25_29) rfl rfl k) ?_
  have f259 := (A2.ext E258)
  obtain ⟨cl260, Ar260, qr260, Sr260, Nr260, Hr260, Gr260⟩ := id f259
  refine own_go (B := T258.setTop (mkF m 31 #[.val (.ref b), .val (.int (1 : Int32)), .val (.ref mir), .val (.ref b258)] [(.int (10 : Int32)), (.int (0 : Int32)), (.ref b258), (.int (0 : Int32)), (.ref b)])) (fun t k => X258.arraylength hx (by rw [e258]; exact Ar260.1) (State.isArrayOf_alike hZ.alike Ar260.2.1) (g := (mkF m 30 #[.val (.ref b), .val (.int (1 : Int32)), .val (.ref mir), .val (.ref b258)] [(.ref b), (.int (0 : Int32)), (.ref b258), (.int (0 : Int32)), (.ref b)])) rfl rfl (hb hby own_d25_30) _ (by rw [len_of Sr260 Nr260]; exact k)) ?_
  refine own_go (B := T258.setTop (mkF m 32 #[.val (.ref b), .val (.int (1 : Int32)), .val (.ref mir), .val (.ref b258)] [(.int (1 : Int32)), (.int (10 : Int32)), (.int (0 : Int32)), (.ref b258), (.int (0 : Int32)), (.ref b)])) (fun t k => XS.iloadN X258.here hx rfl (hb hby own_d25_31) rfl k) ?_
  obtain ⟨_, _, ⟨T261, L261, k261, n261⟩, -, X261, ⟨Lc261, hQ261, l261, y261, z261⟩, st261⟩ := Jvm.LawKit.callS X258 hx (y := (⟨"java/lang/Math", "min", "(II)I"⟩ : MethodName)) hown (mvT hZ (hw _ (List.mem_of_getElem? (i := 170) rfl))) (mvT hZ (hw _ (List.mem_of_getElem? (i := 171) rfl))) (mvT hZ (hw _ (List.mem_of_getElem? (i := 101) rfl))) (mvT hZ (hw _ (List.mem_of_getElem? (i := 172) rfl))) (by decide) (backOf (W := 4) (own_rm_mmin l Z a0 hw [] (10 : Int32) (1 : Int32) (1 : Int32) h258 n0 O258 (by decide)) hZ (hw _ (List.mem_of_getElem? (i := 172) rfl)) (hw _ (List.mem_of_getElem? (i := 101) rfl)) (by decide) (by decide)) (g := (mkF m 32 #[.val (.ref b), .val (.int (1 : Int32)), .val (.ref mir), .val (.ref b258)] [(.int (1 : Int32)), (.int (10 : Int32)), (.int (0 : Int32)), (.ref b258), (.int (0 : Int32)), (.ref b)])) rfl (by rw [hml]; rfl) (argsL := [(.int (10 : Int32)), (.int (1 : Int32))]) (rest := [(.int (0 : Int32)), (.ref b258), (.int (0 : Int32)), (.ref b)]) (lenOf own_pd_6 rfl) rfl (by show 2 * 0 + _ ≤ _; exact Nat.le_of_eq rfl) (hb hby own_d25_32) (fun _ _ => ⟨rfl, e258, (by decide : 1 + 0 ≤ _), (by decide : 1 + 0 ≤ _)⟩)
  dsimp only [Pt.U, Pt.locs, Pt.cells, Pt.slots] at X261 l261 y261 z261 st261 hQ261
  subst l261 y261 z261
  obtain ⟨rfl, N261q, eh261⟩ := hQ261
  have N261 := Fr.app N0 N261q
  refine own_go (B := T261.setTop (mkF m 35 #[.val (.ref b), .val (.int (1 : Int32)), .val (.ref mir), .val (.ref b258)] [(.int (1 : Int32)), (.int (0 : Int32)), (.ref b258), (.int (0 : Int32)), (.ref b)])) (fun t k => st261 _ k) ?_
  obtain ⟨clc262, Arc262, qrc262, -⟩ := id V258
  have f263 := (E3.ext E258)
  obtain ⟨T262, h262, L262, X262, e262, N262, Kc262, V262, st262⟩ := cpA X261 hx hZ hown (hw _ (List.mem_of_getElem? (i := 173) rfl)) (hw _ (List.mem_of_getElem? (i := 176) rfl)) (hw _ (List.mem_of_getElem? (i := 174) rfl)) (hw _ (List.mem_of_getElem? (i := 175) rfl)) eh261 f259 V258 (us := [(.ref st)]) (Or.inr ⟨rfl, rfl, ⟨(Sto.ofV Arc262 qrc262 Ov258 (Ins.of_exa f263 (hw _ (List.mem_of_getElem? (i := 105) rfl)))), trivial⟩⟩) (by decide) (by decide) (by decide) (by decide) (by decide) rfl (by decide) N261 g_b258 (g := (mkF m 35 #[.val (.ref b), .val (.int (1 : Int32)), .val (.ref mir), .val (.ref b258)] [(.int (1 : Int32)), (.int (0 : Int32)), (.ref b258), (.int (0 : Int32)), (.ref b)])) rfl (by rw [hml]; rfl) rfl (hb hby own_d25_35) (by decide) (W := 0) (by show 2 * 0 + _ ≤ _; exact Nat.le_of_eq rfl) (by decide)
  have O262 := O258.keep Kc262 (allS g_b258 all0)
  have K262 := K258.trans Kc262 (allS (Or.inr sz_b258) all0)
  refine own_go (B := T262.setTop (mkF m 38 #[.val (.ref b), .val (.int (1 : Int32)), .val (.ref mir), .val (.ref b258)] [])) (fun t k => st262 _ k) ?_
  refine own_go (B := T262.setTop (mkF m 39 #[.val (.ref b), .val (.int (1 : Int32)), .val (.ref mir), .val (.ref b258)] [(.ref b258)])) (fun t k => XS.aloadN X262.here hx rfl (hb hby own_d25_38) rfl rfl k) ?_
  obtain ⟨fs, hr, hrun, hended, hW, hsame⟩ := X262.leave (v := some (.ref b258)) (fun h => by rw [Bd.returns] at h; cases h)
  have Ex265 : Ext h0 h262 := ⟨K262.1, fun x c q => K262.2.1 x c q nin0⟩
  have f266 := (Ex258.keep Kc262)
  refine ⟨_, _, own_retA X262 hx Bd.returns rfl rfl (hb hby own_d25_39) hr, hK _ _ ⟨hrun, hended, _, _, rfl, ?_, ⟨_, rfl⟩, hW, hsame.mono (by decide) (by decide)⟩⟩
  show own_Q_copy3 Z b st kb w_NONE w_DEF w_EMP w_EL w_ELA mir kd ke h0 n0 _ T262.heap _
  rw [e262]
  exact ⟨b258, k258, rfl, N262, Ex265, sz_b258, f266, V262⟩
theorem own_d24_0 : decode jdk_65_method_119_code 0 = .ok (.aload_n 0, 1) := by decide +kernel
theorem own_d24_1 : decode jdk_65_method_119_code 1 = .ok (.iload_n 1, 1) := by decide +kernel
theorem own_d24_2 : decode jdk_65_method_119_code 2 = .ok (.aload_n 0, 1) := by decide +kernel
theorem own_d24_3 : decode jdk_65_method_119_code 3 = .ok (.invokevirtual 86, 3) := by decide +kernel
theorem own_d24_6 : decode jdk_65_method_119_code 6 = .ok (.invokestatic 300, 3) := by decide +kernel
theorem own_pd_10 : parseMethodDescriptor "([Ljava/lang/Object;ILjava/lang/Class;)[Ljava/lang/Object;" = some ⟨[(.array (.object "java/lang/Object")), .int, (.object "java/lang/Class")], some (.array (.object "java/lang/Object"))⟩ := by decide +kernel
theorem own_d24_9 : decode jdk_65_method_119_code 9 = .ok (.areturn, 1) := by decide +kernel
theorem own_ef_copy2 (m : MethodId) (x0 : Addr) (x1 : Int32)  : entryFrame m #[(.ref x0), (.int x1)] 2 = mkF m 0 #[.val (.ref x0), .val (.int x1)] [] := by first | (simp [entryFrame, mkF, argsToLocals, Value.category]; done) | rfl
def own_Q_copy2 (Z : State) (b st : Addr) (kb : ClassId) (w_NONE w_DEF w_EMP w_EL w_ELA mir : Addr) (kd ke : ClassId) (h0 : Heap) (n0 : Nat) (v : Option Value) (h : Heap) (L : List Loc) : Prop := ∃ (r : Addr) (kr : ClassId), v = some (.ref r) ∧ Fr n0 L ∧ Ext h0 h ∧ h0.size ≤ r ∧ Exa Z h r "[Ljava/lang/Object;" ∧ Arv Z h r kr (.object "java/lang/Object") (1 : Int32) [(.ref st)] .null
set_option maxRecDepth 65536 in
set_option maxHeartbeats 40000000 in
theorem own_rm_copy2 (l : Launch) (Z : State) (a0 : Array Value) (hw : ∀ d ∈ tables_1, d.before a0 Z = true) (ws : List Jvm.Cond) (b st : Addr) (kb : ClassId) (w_NONE w_DEF w_EMP w_EL w_ELA mir : Addr) (kd ke : ClassId) (h0 : Heap) (n0 : Nat) (O0 : Old Z n0 h0) (HS : own_St Z w_NONE w_DEF w_EMP w_EL w_ELA mir kd ke) (E1 : Exa Z h0 b "[Ljava/lang/Object;") (A2 : Arv Z h0 b kb (.object "java/lang/Object") (10 : Int32) [(.ref st), .null, .null, .null, .null, .null, .null, .null, .null, .null] .null) (E3 : Exa Z h0 st "com/example/invariant/invariant/State") :
    MetFree l (⟨"java/util/Arrays", "copyOf", "([Ljava/lang/Object;I)[Ljava/lang/Object;"⟩ : MethodName) (head1 (Jvm.Cond.code (⟨"java/util/Arrays", "copyOf", "([Ljava/lang/Object;I)[Ljava/lang/Object;"⟩ : MethodName) jdk_65_method_119_code 2 (some (.array (.object "java/lang/Object"))) :: ws) ({ frames := 2, cells := 1, slots := 1, locals := 75 } : Room)) (fun ar9 U => ar9 = #[(.ref b), (.int (1 : Int32))] ∧ Z.Warmed39 U.vm ∧ U.heap = h0) (fun _ _ _ _ _ => True) (fun _ U o U' => ∃ v L, o = .returned v ∧ own_Q_copy2 Z b st kb w_NONE w_DEF w_EMP w_EL w_ELA mir kd ke h0 n0 v U'.heap L ∧ FrameEnd U o U' L ({ frames := 2, cells := 1, slots := 1, locals := 75 } : Room).cells ({ frames := 2, cells := 1, slots := 1, locals := 75 } : Room).slots) := by
  refine MetFree.of_bodySF (plainFor_of_name own_pn_2) hisR ?_
  intro p e s m args below meth c s₁ Bd hml0 hP hK0
  obtain ⟨rfl, hZ, hh⟩ := hP
  have hx := Bd.exec
  have hby := Bd.bytes
  have hml : c.maxLocals = 2 := hml0
  have hown : s.vm.findClass "java/util/Arrays" = some m.cls := findClass_of_methodNamed Bd.named
  have hnm := (name_of_methodNamed Bd.named Bd.method).1
  have X0 : Stand p l e ({ frames := 2, cells := 1, slots := 1, locals := 75 } : Room) s m #[(.ref b), (.int (1 : Int32))] below meth c s₁ [] 0 0 := Stand.of_body Bd
  have e0 : s₁.heap = h0 := by rw [← hh, Bd.state]; rfl
  have N0 := Fr.nil n0
  have K0 := Keep.refl h0 []
  refine own_open fun K hK => ?_
  refine own_go (B := s₁.setTop (mkF m 0 #[.val (.ref b), .val (.int (1 : Int32))] [])) (fun t k => castTop (own_ef_copy2 m b (1 : Int32)) k) ?_
  refine own_go (B := s₁.setTop (mkF m 1 #[.val (.ref b), .val (.int (1 : Int32))] [(.ref b)])) (fun t k => XS.aloadN X0.here hx rfl (hb hby own_d24_0) rfl rfl k) ?_
  refine own_go (B := s₁.setTop (mkF m 2 #[.val (.ref b), .val (.int (1 : Int32))] [(.int (1 : Int32)), (.ref b)])) (fun t k => XS.iloadN X0.here hx rfl (hb hby own_d24_1) rfl k) ?_
  refine own_go (B := s₁.setTop (mkF m 3 #[.val (.ref b), .val (.int (1 : Int32))] [(.ref b), (.int (1 : Int32)), (.ref b)])) (fun t k => XS.aloadN X0.here hx rfl (hb hby own_d24_2) rfl rfl k) ?_
  obtain ⟨T267, X267, e267, st267⟩ := own_getClass X0 hx hZ hown (hw _ (List.mem_of_getElem? (i := 159) rfl)) (hw _ (List.mem_of_getElem? (i := 160) rfl)) (hw _ (List.mem_of_getElem? (i := 137) rfl)) (hw _ (List.mem_of_getElem? (i := 162) rfl)) (hw _ (List.mem_of_getElem? (i := 161) rfl)) (hw _ (List.mem_of_getElem? (i := 163) rfl)) HS.2.2.2.2.2.2.2.2.2.2.2 e0 E1 (g := (mkF m 3 #[.val (.ref b), .val (.int (1 : Int32))] [(.ref b), (.int (1 : Int32)), (.ref b)])) rfl (by rw [hml]; rfl) rfl (hb hby own_d24_3) (by decide) (by show 2 * 0 + 2 + (nativeFrameWords "java/lang/Object" "getClass" 1 + 11) ≤ _; decide)
  refine own_go (B := T267.setTop (mkF m 6 #[.val (.ref b), .val (.int (1 : Int32))] [(.ref mir), (.int (1 : Int32)), (.ref b)])) (fun t k => st267 _ k) ?_
  have lt_b_268 := E1.lt
  have lt_st_268 := E3.lt
  obtain ⟨_, _, ⟨T269, L269, k269, n269⟩, -, X269, ⟨Lc269, hQ269, l269, y269, z269⟩, st269⟩ := Jvm.LawKit.callS X267 hx (y := (⟨"java/util/Arrays", "copyOf", "([Ljava/lang/Object;ILjava/lang/Class;)[Ljava/lang/Object;"⟩ : MethodName)) hown (mvT hZ (hw _ (List.mem_of_getElem? (i := 165) rfl))) (mvT hZ (hw _ (List.mem_of_getElem? (i := 166) rfl))) (mvT hZ (hw _ (List.mem_of_getElem? (i := 47) rfl))) (mvT hZ (hw _ (List.mem_of_getElem? (i := 167) rfl))) (by decide) (backOf (W := 0) (own_rm_copy3 l Z a0 hw [] b st kb w_NONE w_DEF w_EMP w_EL w_ELA mir kd ke h0 n0 O0 HS E1 A2 E3) hZ (hw _ (List.mem_of_getElem? (i := 167) rfl)) (hw _ (List.mem_of_getElem? (i := 47) rfl)) (by decide) (by decide)) (g := (mkF m 6 #[.val (.ref b), .val (.int (1 : Int32))] [(.ref mir), (.int (1 : Int32)), (.ref b)])) rfl (by rw [hml]; rfl) (argsL := [(.ref b), (.int (1 : Int32)), (.ref mir)]) (rest := []) (lenOf own_pd_10 rfl) rfl (by show 2 * 0 + _ ≤ _; exact Nat.le_of_eq rfl) (hb hby own_d24_6) (fun _ _ => ⟨rfl, e267, (by decide : 0 + 1 ≤ _), (by decide : 0 + 1 ≤ _)⟩)
  dsimp only [Pt.U, Pt.locs, Pt.cells, Pt.slots] at X269 l269 y269 z269 st269 hQ269
  subst l269 y269 z269
  obtain ⟨r_269, kr_269, rfl, N269q, Kc269, Q269_0, Q269_1, Q269_2⟩ := hQ269
  have E269 := Kc269
  have O269 := O0.ext E269
  have K269 := K0.ext E269
  have N269 := Fr.app N0 N269q
  refine own_go (B := T269.setTop (mkF m 9 #[.val (.ref b), .val (.int (1 : Int32))] [(.ref r_269)])) (fun t k => st269 _ k) ?_
  have g_r_269 : n0 ≤ r_269 := Nat.le_trans (own_n0 O0) Q269_0
  have sz_r_269 : h0.size ≤ r_269 := Nat.le_trans K0.1 Q269_0
  obtain ⟨fs, hr, hrun, hended, hW, hsame⟩ := X269.leave (v := some (.ref r_269)) (fun h => by rw [Bd.returns] at h; cases h)
  have Ex271 : Ext h0 T269.heap := ⟨K269.1, fun x c q => K269.2.1 x c q nin0⟩
  refine ⟨_, _, own_retA X269 hx Bd.returns rfl rfl (hb hby own_d24_9) hr, hK _ _ ⟨hrun, hended, _, _, rfl, ?_, ⟨_, rfl⟩, hW, hsame.mono (by decide) (by decide)⟩⟩
  show own_Q_copy2 Z b st kb w_NONE w_DEF w_EMP w_EL w_ELA mir kd ke h0 n0 _ T269.heap _
  exact ⟨r_269, kr_269, rfl, N269, Ex271, sz_r_269, Q269_1, Q269_2⟩
theorem own_d23_0 : decode jdk_38_method_16_code 0 = .ok (.aload_n 0, 1) := by decide +kernel
theorem own_d23_1 : decode jdk_38_method_16_code 1 = .ok (.getfield 9, 3) := by decide +kernel
theorem own_d23_4 : decode jdk_38_method_16_code 4 = .ok (.aload_n 0, 1) := by decide +kernel
theorem own_d23_5 : decode jdk_38_method_16_code 5 = .ok (.getfield 48, 3) := by decide +kernel
theorem own_d23_8 : decode jdk_38_method_16_code 8 = .ok (.invokestatic 66, 3) := by decide +kernel
theorem own_pd_11 : parseMethodDescriptor "([Ljava/lang/Object;I)[Ljava/lang/Object;" = some ⟨[(.array (.object "java/lang/Object")), .int], some (.array (.object "java/lang/Object"))⟩ := by decide +kernel
theorem own_d23_11 : decode jdk_38_method_16_code 11 = .ok (.areturn, 1) := by decide +kernel
theorem own_ef_toArray (m : MethodId) (x0 : Addr)  : entryFrame m #[(.ref x0)] 1 = mkF m 0 #[.val (.ref x0)] [] := by first | (simp [entryFrame, mkF, argsToLocals, Value.category]; done) | rfl
def own_Q_toArray (Z : State) (a b st : Addr) (kb : ClassId) (w_NONE w_DEF w_EMP w_EL w_ELA mir : Addr) (kd ke : ClassId) (h0 : Heap) (n0 : Nat) (v : Option Value) (h : Heap) (L : List Loc) : Prop := ∃ (r : Addr) (kr : ClassId), v = some (.ref r) ∧ Fr n0 L ∧ Ext h0 h ∧ h0.size ≤ r ∧ Exa Z h r "[Ljava/lang/Object;" ∧ Arv Z h r kr (.object "java/lang/Object") (1 : Int32) [(.ref st)] .null
set_option maxRecDepth 65536 in
set_option maxHeartbeats 40000000 in
theorem own_rm_toArray (l : Launch) (Z : State) (a0 : Array Value) (hw : ∀ d ∈ tables_1, d.before a0 Z = true) (ws : List Jvm.Cond) (a b st : Addr) (kb : ClassId) (w_NONE w_DEF w_EMP w_EL w_ELA mir : Addr) (kd ke : ClassId) (h0 : Heap) (n0 : Nat) (O0 : Old Z n0 h0) (HS : own_St Z w_NONE w_DEF w_EMP w_EL w_ELA mir kd ke) (E1 : Exa Z h0 a "java/util/ArrayList") (F2 : Fld Z h0 a "java/util/AbstractList" "modCount" "I" (.int (1 : Int32))) (F3 : Fld Z h0 a "java/util/ArrayList" "elementData" "[Ljava/lang/Object;" (.ref b)) (F4 : Fld Z h0 a "java/util/ArrayList" "size" "I" (.int (1 : Int32))) (E5 : Exa Z h0 b "[Ljava/lang/Object;") (A6 : Arv Z h0 b kb (.object "java/lang/Object") (10 : Int32) [(.ref st), .null, .null, .null, .null, .null, .null, .null, .null, .null] .null) (E7 : Exa Z h0 st "com/example/invariant/invariant/State") :
    MetFree l (⟨"java/util/ArrayList", "toArray", "()[Ljava/lang/Object;"⟩ : MethodName) (head1 (Jvm.Cond.code (⟨"java/util/ArrayList", "toArray", "()[Ljava/lang/Object;"⟩ : MethodName) jdk_38_method_16_code 1 (some (.array (.object "java/lang/Object"))) :: ws) ({ frames := 3, cells := 1, slots := 1, locals := 88 } : Room)) (fun ar9 U => ar9 = #[(.ref a)] ∧ Z.Warmed39 U.vm ∧ U.heap = h0) (fun _ _ _ _ _ => True) (fun _ U o U' => ∃ v L, o = .returned v ∧ own_Q_toArray Z a b st kb w_NONE w_DEF w_EMP w_EL w_ELA mir kd ke h0 n0 v U'.heap L ∧ FrameEnd U o U' L ({ frames := 3, cells := 1, slots := 1, locals := 88 } : Room).cells ({ frames := 3, cells := 1, slots := 1, locals := 88 } : Room).slots) := by
  refine MetFree.of_bodySF (plainFor_of_name own_pn_6) hisR ?_
  intro p e s m args below meth c s₁ Bd hml0 hP hK0
  obtain ⟨rfl, hZ, hh⟩ := hP
  have hx := Bd.exec
  have hby := Bd.bytes
  have hml : c.maxLocals = 1 := hml0
  have hown : s.vm.findClass "java/util/ArrayList" = some m.cls := findClass_of_methodNamed Bd.named
  have hnm := (name_of_methodNamed Bd.named Bd.method).1
  have X0 : Stand p l e ({ frames := 3, cells := 1, slots := 1, locals := 88 } : Room) s m #[(.ref a)] below meth c s₁ [] 0 0 := Stand.of_body Bd
  have e0 : s₁.heap = h0 := by rw [← hh, Bd.state]; rfl
  have N0 := Fr.nil n0
  have K0 := Keep.refl h0 []
  refine own_open fun K hK => ?_
  refine own_go (B := s₁.setTop (mkF m 0 #[.val (.ref a)] [])) (fun t k => castTop (own_ef_toArray m a) k) ?_
  refine own_go (B := s₁.setTop (mkF m 1 #[.val (.ref a)] [(.ref a)])) (fun t k => XS.aloadN X0.here hx rfl (hb hby own_d23_0) rfl rfl k) ?_
  obtain ⟨T272, X272, e272, st272⟩ := getF X0 hx hZ hown (host := "") (Or.inl (hw _ (List.mem_of_getElem? (i := 73) rfl))) Via.refl e0 F3 (g := (mkF m 1 #[.val (.ref a)] [(.ref a)])) rfl rfl (hb hby own_d23_1)
  refine own_go (B := T272.setTop (mkF m 4 #[.val (.ref a)] [(.ref b)])) (fun t k => st272 _ k) ?_
  refine own_go (B := T272.setTop (mkF m 5 #[.val (.ref a)] [(.ref a), (.ref b)])) (fun t k => XS.aloadN X272.here hx rfl (hb hby own_d23_4) rfl rfl k) ?_
  obtain ⟨T273, X273, e273, st273⟩ := getF X272 hx hZ hown (host := "") (Or.inl (hw _ (List.mem_of_getElem? (i := 82) rfl))) Via.refl e272 F4 (g := (mkF m 5 #[.val (.ref a)] [(.ref a), (.ref b)])) rfl rfl (hb hby own_d23_5)
  refine own_go (B := T273.setTop (mkF m 8 #[.val (.ref a)] [(.int (1 : Int32)), (.ref b)])) (fun t k => st273 _ k) ?_
  have lt_a_274 := E1.lt
  have lt_b_274 := E5.lt
  have lt_st_274 := E7.lt
  obtain ⟨_, _, ⟨T275, L275, k275, n275⟩, -, X275, ⟨Lc275, hQ275, l275, y275, z275⟩, st275⟩ := Jvm.LawKit.callS X273 hx (y := (⟨"java/util/Arrays", "copyOf", "([Ljava/lang/Object;I)[Ljava/lang/Object;"⟩ : MethodName)) hown (mvT hZ (hw _ (List.mem_of_getElem? (i := 156) rfl))) (mvT hZ (hw _ (List.mem_of_getElem? (i := 157) rfl))) (mvT hZ (hw _ (List.mem_of_getElem? (i := 47) rfl))) (mvT hZ (hw _ (List.mem_of_getElem? (i := 158) rfl))) (by decide) (backOf (W := 0) (own_rm_copy2 l Z a0 hw [] b st kb w_NONE w_DEF w_EMP w_EL w_ELA mir kd ke h0 n0 O0 HS E5 A6 E7) hZ (hw _ (List.mem_of_getElem? (i := 158) rfl)) (hw _ (List.mem_of_getElem? (i := 47) rfl)) (by decide) (by decide)) (g := (mkF m 8 #[.val (.ref a)] [(.int (1 : Int32)), (.ref b)])) rfl (by rw [hml]; rfl) (argsL := [(.ref b), (.int (1 : Int32))]) (rest := []) (lenOf own_pd_11 rfl) rfl (by show 2 * 0 + _ ≤ _; exact Nat.le_of_eq rfl) (hb hby own_d23_8) (fun _ _ => ⟨rfl, e273, (by decide : 0 + 1 ≤ _), (by decide : 0 + 1 ≤ _)⟩)
  dsimp only [Pt.U, Pt.locs, Pt.cells, Pt.slots] at X275 l275 y275 z275 st275 hQ275
  subst l275 y275 z275
  obtain ⟨r_275, kr_275, rfl, N275q, Kc275, Q275_0, Q275_1, Q275_2⟩ := hQ275
  have E275 := Kc275
  have O275 := O0.ext E275
  have K275 := K0.ext E275
  have N275 := Fr.app N0 N275q
  refine own_go (B := T275.setTop (mkF m 11 #[.val (.ref a)] [(.ref r_275)])) (fun t k => st275 _ k) ?_
  have g_r_275 : n0 ≤ r_275 := Nat.le_trans (own_n0 O0) Q275_0
  have sz_r_275 : h0.size ≤ r_275 := Nat.le_trans K0.1 Q275_0
  obtain ⟨fs, hr, hrun, hended, hW, hsame⟩ := X275.leave (v := some (.ref r_275)) (fun h => by rw [Bd.returns] at h; cases h)
  have Ex277 : Ext h0 T275.heap := ⟨K275.1, fun x c q => K275.2.1 x c q nin0⟩
  refine ⟨_, _, own_retA X275 hx Bd.returns rfl rfl (hb hby own_d23_11) hr, hK _ _ ⟨hrun, hended, _, _, rfl, ?_, ⟨_, rfl⟩, hW, hsame.mono (by decide) (by decide)⟩⟩
  show own_Q_toArray Z a b st kb w_NONE w_DEF w_EMP w_EL w_ELA mir kd ke h0 n0 _ T275.heap _
  exact ⟨r_275, kr_275, rfl, N275, Ex277, sz_r_275, Q275_1, Q275_2⟩
theorem own_d28_0 : decode jdk_47_method_1_code 0 = .ok (.aload_n 0, 1) := by decide +kernel
theorem own_d28_1 : decode jdk_47_method_1_code 1 = .ok (.invokespecial 1, 3) := by decide +kernel
theorem own_d28_4 : decode jdk_47_method_1_code 4 = .ok (.return_, 1) := by decide +kernel
theorem own_pn_7 : plainName "java/util/ImmutableCollections$AbstractImmutableCollection" = true := by first | (simp [plainName, overriddenIn]; done) | decide +kernel
theorem own_ef_aic (m : MethodId) (x0 : Addr)  : entryFrame m #[(.ref x0)] 1 = mkF m 0 #[.val (.ref x0)] [] := by first | (simp [entryFrame, mkF, argsToLocals, Value.category]; done) | rfl
def own_Q_aic (Z : State) (a : Addr) (h0 : Heap) (n0 : Nat) (v : Option Value) (h : Heap) (L : List Loc) : Prop := v = none ∧ Fr n0 L ∧ h = h0
set_option maxRecDepth 65536 in
set_option maxHeartbeats 40000000 in
theorem own_rm_aic (l : Launch) (Z : State) (a0 : Array Value) (hw : ∀ d ∈ tables_1, d.before a0 Z = true) (ws : List Jvm.Cond) (a : Addr) (h0 : Heap) (n0 : Nat) (O0 : Old Z n0 h0) :
    MetFree l (⟨"java/util/ImmutableCollections$AbstractImmutableCollection", "<init>", "()V"⟩ : MethodName) (head1 (Jvm.Cond.code (⟨"java/util/ImmutableCollections$AbstractImmutableCollection", "<init>", "()V"⟩ : MethodName) jdk_47_method_1_code 1 none :: ws) ({ frames := 2, cells := 0, slots := 0, locals := 24 } : Room)) (fun ar9 U => ar9 = #[(.ref a)] ∧ Z.Warmed39 U.vm ∧ U.heap = h0) (fun _ _ _ _ _ => True) (fun _ U o U' => ∃ v L, o = .returned v ∧ own_Q_aic Z a h0 n0 v U'.heap L ∧ FrameEnd U o U' L ({ frames := 2, cells := 0, slots := 0, locals := 24 } : Room).cells ({ frames := 2, cells := 0, slots := 0, locals := 24 } : Room).slots) := by
  refine MetFree.of_bodySF (plainFor_of_name own_pn_7) hisR ?_
  intro p e s m args below meth c s₁ Bd hml0 hP hK0
  obtain ⟨rfl, hZ, hh⟩ := hP
  have hx := Bd.exec
  have hby := Bd.bytes
  have hml : c.maxLocals = 1 := hml0
  have hown : s.vm.findClass "java/util/ImmutableCollections$AbstractImmutableCollection" = some m.cls := findClass_of_methodNamed Bd.named
  have hnm := (name_of_methodNamed Bd.named Bd.method).1
  have X0 : Stand p l e ({ frames := 2, cells := 0, slots := 0, locals := 24 } : Room) s m #[(.ref a)] below meth c s₁ [] 0 0 := Stand.of_body Bd
  have e0 : s₁.heap = h0 := by rw [← hh, Bd.state]; rfl
  have N0 := Fr.nil n0
  refine own_open fun K hK => ?_
  refine own_go (B := s₁.setTop (mkF m 0 #[.val (.ref a)] [])) (fun t k => castTop (own_ef_aic m a) k) ?_
  refine own_go (B := s₁.setTop (mkF m 1 #[.val (.ref a)] [(.ref a)])) (fun t k => XS.aloadN X0.here hx rfl (hb hby own_d28_0) rfl rfl k) ?_
  obtain ⟨_, _, ⟨T278, L278, k278, n278⟩, -, X278, ⟨Lc278, hQ278, l278, y278, z278⟩, st278⟩ := X0.specialBack hx (y := (⟨"java/util/AbstractCollection", "<init>", "()V"⟩ : MethodName)) rfl hown (mvT hZ (hw _ (List.mem_of_getElem? (i := 199) rfl))) (mvT hZ (hw _ (List.mem_of_getElem? (i := 64) rfl))) (mvT hZ (hw _ (List.mem_of_getElem? (i := 68) rfl))) (by decide) (backOf (W := 0) (own_rm_abc l Z a0 hw [] a h0 n0 O0 ) hZ (hw _ (List.mem_of_getElem? (i := 68) rfl)) (hw _ (List.mem_of_getElem? (i := 67) rfl)) (by decide) (by decide)) (g := (mkF m 1 #[.val (.ref a)] [(.ref a)])) rfl (by rw [hml]; rfl) (Steps.refl _) (a := a) (argsL := []) (rest := []) (lenOf own_pd_5 rfl) rfl (by show 2 * 0 + _ ≤ _; exact Nat.le_of_eq rfl) (hb hby own_d28_1) (fun _ _ => ⟨rfl, e0, (by decide : 0 + 0 ≤ _), (by decide : 0 + 0 ≤ _)⟩)
  dsimp only [Pt.U, Pt.locs, Pt.cells, Pt.slots] at X278 l278 y278 z278 st278 hQ278
  subst l278 y278 z278
  obtain ⟨rfl, N278q, eh278⟩ := hQ278
  have N278 := Fr.app N0 N278q
  refine own_go (B := T278.setTop (mkF m 4 #[.val (.ref a)] [])) (fun t k => st278.trans k) ?_
  obtain ⟨fs, hr, hrun, hended, hW, hsame⟩ := X278.leave (v := none) (fun _ => rfl)
  refine ⟨_, _, X278.returnOut hx Bd.returns (hb hby own_d28_4) hr, hK _ _ ⟨hrun, hended, _, _, rfl, ?_, ⟨_, rfl⟩, hW, hsame.mono (by decide) (by decide)⟩⟩
  show own_Q_aic Z a h0 n0 _ T278.heap _
  rw [eh278]
  exact ⟨rfl, N278, rfl⟩
theorem own_d29_0 : decode jdk_46_method_1_code 0 = .ok (.aload_n 0, 1) := by decide +kernel
theorem own_d29_1 : decode jdk_46_method_1_code 1 = .ok (.invokespecial 1, 3) := by decide +kernel
theorem own_d29_4 : decode jdk_46_method_1_code 4 = .ok (.return_, 1) := by decide +kernel
theorem own_pn_8 : plainName "java/util/ImmutableCollections$AbstractImmutableList" = true := by first | (simp [plainName, overriddenIn]; done) | decide +kernel
theorem own_ef_ail (m : MethodId) (x0 : Addr)  : entryFrame m #[(.ref x0)] 1 = mkF m 0 #[.val (.ref x0)] [] := by first | (simp [entryFrame, mkF, argsToLocals, Value.category]; done) | rfl
def own_Q_ail (Z : State) (a : Addr) (h0 : Heap) (n0 : Nat) (v : Option Value) (h : Heap) (L : List Loc) : Prop := v = none ∧ Fr n0 L ∧ h = h0
set_option maxRecDepth 65536 in
set_option maxHeartbeats 40000000 in
theorem own_rm_ail (l : Launch) (Z : State) (a0 : Array Value) (hw : ∀ d ∈ tables_1, d.before a0 Z = true) (ws : List Jvm.Cond) (a : Addr) (h0 : Heap) (n0 : Nat) (O0 : Old Z n0 h0) :
    MetFree l (⟨"java/util/ImmutableCollections$AbstractImmutableList", "<init>", "()V"⟩ : MethodName) (head1 (Jvm.Cond.code (⟨"java/util/ImmutableCollections$AbstractImmutableList", "<init>", "()V"⟩ : MethodName) jdk_46_method_1_code 1 none :: ws) ({ frames := 3, cells := 0, slots := 0, locals := 36 } : Room)) (fun ar9 U => ar9 = #[(.ref a)] ∧ Z.Warmed39 U.vm ∧ U.heap = h0) (fun _ _ _ _ _ => True) (fun _ U o U' => ∃ v L, o = .returned v ∧ own_Q_ail Z a h0 n0 v U'.heap L ∧ FrameEnd U o U' L ({ frames := 3, cells := 0, slots := 0, locals := 36 } : Room).cells ({ frames := 3, cells := 0, slots := 0, locals := 36 } : Room).slots) := by
  refine MetFree.of_bodySF (plainFor_of_name own_pn_8) hisR ?_
  intro p e s m args below meth c s₁ Bd hml0 hP hK0
  obtain ⟨rfl, hZ, hh⟩ := hP
  have hx := Bd.exec
  have hby := Bd.bytes
  have hml : c.maxLocals = 1 := hml0
  have hown : s.vm.findClass "java/util/ImmutableCollections$AbstractImmutableList" = some m.cls := findClass_of_methodNamed Bd.named
  have hnm := (name_of_methodNamed Bd.named Bd.method).1
  have X0 : Stand p l e ({ frames := 3, cells := 0, slots := 0, locals := 36 } : Room) s m #[(.ref a)] below meth c s₁ [] 0 0 := Stand.of_body Bd
  have e0 : s₁.heap = h0 := by rw [← hh, Bd.state]; rfl
  have N0 := Fr.nil n0
  refine own_open fun K hK => ?_
  refine own_go (B := s₁.setTop (mkF m 0 #[.val (.ref a)] [])) (fun t k => castTop (own_ef_ail m a) k) ?_
  refine own_go (B := s₁.setTop (mkF m 1 #[.val (.ref a)] [(.ref a)])) (fun t k => XS.aloadN X0.here hx rfl (hb hby own_d29_0) rfl rfl k) ?_
  obtain ⟨_, _, ⟨T280, L280, k280, n280⟩, -, X280, ⟨Lc280, hQ280, l280, y280, z280⟩, st280⟩ := X0.specialBack hx (y := (⟨"java/util/ImmutableCollections$AbstractImmutableCollection", "<init>", "()V"⟩ : MethodName)) rfl hown (mvT hZ (hw _ (List.mem_of_getElem? (i := 193) rfl))) (mvT hZ (hw _ (List.mem_of_getElem? (i := 194) rfl))) (mvT hZ (hw _ (List.mem_of_getElem? (i := 198) rfl))) (by decide) (backOf (W := 0) (own_rm_aic l Z a0 hw [] a h0 n0 O0 ) hZ (hw _ (List.mem_of_getElem? (i := 198) rfl)) (hw _ (List.mem_of_getElem? (i := 197) rfl)) (by decide) (by decide)) (g := (mkF m 1 #[.val (.ref a)] [(.ref a)])) rfl (by rw [hml]; rfl) (Steps.refl _) (a := a) (argsL := []) (rest := []) (lenOf own_pd_5 rfl) rfl (by show 2 * 0 + _ ≤ _; exact Nat.le_of_eq rfl) (hb hby own_d29_1) (fun _ _ => ⟨rfl, e0, (by decide : 0 + 0 ≤ _), (by decide : 0 + 0 ≤ _)⟩)
  dsimp only [Pt.U, Pt.locs, Pt.cells, Pt.slots] at X280 l280 y280 z280 st280 hQ280
  subst l280 y280 z280
  obtain ⟨rfl, N280q, eh280⟩ := hQ280
  have N280 := Fr.app N0 N280q
  refine own_go (B := T280.setTop (mkF m 4 #[.val (.ref a)] [])) (fun t k => st280.trans k) ?_
  obtain ⟨fs, hr, hrun, hended, hW, hsame⟩ := X280.leave (v := none) (fun _ => rfl)
  refine ⟨_, _, X280.returnOut hx Bd.returns (hb hby own_d29_4) hr, hK _ _ ⟨hrun, hended, _, _, rfl, ?_, ⟨_, rfl⟩, hW, hsame.mono (by decide) (by decide)⟩⟩
  show own_Q_ail Z a h0 n0 _ T280.heap _
  rw [eh280]
  exact ⟨rfl, N280, rfl⟩
theorem own_d30_0 : decode jdk_44_method_1_code 0 = .ok (.aload_n 0, 1) := by decide +kernel
theorem own_d30_1 : decode jdk_44_method_1_code 1 = .ok (.invokespecial 1, 3) := by decide +kernel
theorem own_d30_4 : decode jdk_44_method_1_code 4 = .ok (.aload_n 0, 1) := by decide +kernel
theorem own_d30_5 : decode jdk_44_method_1_code 5 = .ok (.aload_n 1, 1) := by decide +kernel
theorem own_d30_6 : decode jdk_44_method_1_code 6 = .ok (.invokestatic 7, 3) := by decide +kernel
theorem own_pd_12 : parseMethodDescriptor "(Ljava/lang/Object;)Ljava/lang/Object;" = some ⟨[(.object "java/lang/Object")], some (.object "java/lang/Object")⟩ := by decide +kernel
theorem own_d30_9 : decode jdk_44_method_1_code 9 = .ok (.putfield 13, 3) := by decide +kernel
theorem own_d30_12 : decode jdk_44_method_1_code 12 = .ok (.aload_n 0, 1) := by decide +kernel
theorem own_d30_13 : decode jdk_44_method_1_code 13 = .ok (.getstatic 19, 3) := by decide +kernel
theorem own_d30_16 : decode jdk_44_method_1_code 16 = .ok (.putfield 24, 3) := by decide +kernel
theorem own_d30_19 : decode jdk_44_method_1_code 19 = .ok (.return_, 1) := by decide +kernel
theorem own_pn_9 : plainName "java/util/ImmutableCollections$List12" = true := by first | (simp [plainName, overriddenIn]; done) | decide +kernel
theorem own_ef_l12 (m : MethodId) (x0 : Addr) (x1 : Addr)  : entryFrame m #[(.ref x0), (.ref x1)] 2 = mkF m 0 #[.val (.ref x0), .val (.ref x1)] [] := by first | (simp [entryFrame, mkF, argsToLocals, Value.category]; done) | rfl
def own_Q_l12 (Z : State) (a st : Addr) (w_NONE w_DEF w_EMP w_EL w_ELA mir : Addr) (kd ke : ClassId) (h0 : Heap) (n0 : Nat) (v : Option Value) (h : Heap) (L : List Loc) : Prop := v = none ∧ Fr n0 L ∧ Keep h0 h [a] ∧ Exa Z h a "java/util/ImmutableCollections$List12" ∧ Fld Z h a "java/util/ImmutableCollections$List12" "e1" "Ljava/lang/Object;" (.ref w_EMP)
set_option maxRecDepth 65536 in
set_option maxHeartbeats 40000000 in
theorem own_rm_l12 (l : Launch) (Z : State) (a0 : Array Value) (hw : ∀ d ∈ tables_1, d.before a0 Z = true) (ws : List Jvm.Cond) (a st : Addr) (w_NONE w_DEF w_EMP w_EL w_ELA mir : Addr) (kd ke : ClassId) (h0 : Heap) (n0 : Nat) (O0 : Old Z n0 h0) (HS : own_St Z w_NONE w_DEF w_EMP w_EL w_ELA mir kd ke) (E1 : Exa Z h0 a "java/util/ImmutableCollections$List12") (F2 : Fld Z h0 a "java/util/ImmutableCollections$List12" "e0" "Ljava/lang/Object;" .null) (F3 : Fld Z h0 a "java/util/ImmutableCollections$List12" "e1" "Ljava/lang/Object;" .null) (G4 : n0 ≤ a) :
    MetFree l (⟨"java/util/ImmutableCollections$List12", "<init>", "(Ljava/lang/Object;)V"⟩ : MethodName) (head1 (Jvm.Cond.code (⟨"java/util/ImmutableCollections$List12", "<init>", "(Ljava/lang/Object;)V"⟩ : MethodName) jdk_44_method_1_code 2 none :: ws) ({ frames := 4, cells := 0, slots := 0, locals := 48 } : Room)) (fun ar9 U => ar9 = #[(.ref a), (.ref st)] ∧ Z.Warmed39 U.vm ∧ U.heap = h0) (fun _ _ _ _ _ => True) (fun _ U o U' => ∃ v L, o = .returned v ∧ own_Q_l12 Z a st w_NONE w_DEF w_EMP w_EL w_ELA mir kd ke h0 n0 v U'.heap L ∧ FrameEnd U o U' L ({ frames := 4, cells := 0, slots := 0, locals := 48 } : Room).cells ({ frames := 4, cells := 0, slots := 0, locals := 48 } : Room).slots) := by
  refine MetFree.of_bodySF (plainFor_of_name own_pn_9) hisR ?_
  intro p e s m args below meth c s₁ Bd hml0 hP hK0
  obtain ⟨rfl, hZ, hh⟩ := hP
  have hx := Bd.exec
  have hby := Bd.bytes
  have hml : c.maxLocals = 2 := hml0
  have hown : s.vm.findClass "java/util/ImmutableCollections$List12" = some m.cls := findClass_of_methodNamed Bd.named
  have hnm := (name_of_methodNamed Bd.named Bd.method).1
  have X0 : Stand p l e ({ frames := 4, cells := 0, slots := 0, locals := 48 } : Room) s m #[(.ref a), (.ref st)] below meth c s₁ [] 0 0 := Stand.of_body Bd
  have e0 : s₁.heap = h0 := by rw [← hh, Bd.state]; rfl
  have N0 := Fr.nil n0
  have K0 := Keep.refl h0 [a]
  refine own_open fun K hK => ?_
  refine own_go (B := s₁.setTop (mkF m 0 #[.val (.ref a), .val (.ref st)] [])) (fun t k => castTop (own_ef_l12 m a st) k) ?_
  refine own_go (B := s₁.setTop (mkF m 1 #[.val (.ref a), .val (.ref st)] [(.ref a)])) (fun t k => XS.aloadN X0.here hx rfl (hb hby own_d30_0) rfl rfl k) ?_
  obtain ⟨_, _, ⟨T282, L282, k282, n282⟩, -, X282, ⟨Lc282, hQ282, l282, y282, z282⟩, st282⟩ := X0.specialBack hx (y := (⟨"java/util/ImmutableCollections$AbstractImmutableList", "<init>", "()V"⟩ : MethodName)) rfl hown (mvT hZ (hw _ (List.mem_of_getElem? (i := 187) rfl))) (mvT hZ (hw _ (List.mem_of_getElem? (i := 188) rfl))) (mvT hZ (hw _ (List.mem_of_getElem? (i := 192) rfl))) (by decide) (backOf (W := 0) (own_rm_ail l Z a0 hw [] a h0 n0 O0 ) hZ (hw _ (List.mem_of_getElem? (i := 192) rfl)) (hw _ (List.mem_of_getElem? (i := 191) rfl)) (by decide) (by decide)) (g := (mkF m 1 #[.val (.ref a), .val (.ref st)] [(.ref a)])) rfl (by rw [hml]; rfl) (Steps.refl _) (a := a) (argsL := []) (rest := []) (lenOf own_pd_5 rfl) rfl (by show 2 * 0 + _ ≤ _; exact Nat.le_of_eq rfl) (hb hby own_d30_1) (fun _ _ => ⟨rfl, e0, (by decide : 0 + 0 ≤ _), (by decide : 0 + 0 ≤ _)⟩)
  dsimp only [Pt.U, Pt.locs, Pt.cells, Pt.slots] at X282 l282 y282 z282 st282 hQ282
  subst l282 y282 z282
  obtain ⟨rfl, N282q, eh282⟩ := hQ282
  have N282 := Fr.app N0 N282q
  refine own_go (B := T282.setTop (mkF m 4 #[.val (.ref a), .val (.ref st)] [])) (fun t k => st282.trans k) ?_
  refine own_go (B := T282.setTop (mkF m 5 #[.val (.ref a), .val (.ref st)] [(.ref a)])) (fun t k => XS.aloadN X282.here hx rfl (hb hby own_d30_4) rfl rfl k) ?_
  refine own_go (B := T282.setTop (mkF m 6 #[.val (.ref a), .val (.ref st)] [(.ref st), (.ref a)])) (fun t k => XS.aloadN X282.here hx rfl (hb hby own_d30_5) rfl rfl k) ?_
  obtain ⟨_, _, ⟨T283, L283, k283, n283⟩, -, X283, ⟨Lc283, hQ283, l283, y283, z283⟩, st283⟩ := Jvm.LawKit.callS X282 hx (y := (⟨"java/util/Objects", "requireNonNull", "(Ljava/lang/Object;)Ljava/lang/Object;"⟩ : MethodName)) hown (mvT hZ (hw _ (List.mem_of_getElem? (i := 201) rfl))) (mvT hZ (hw _ (List.mem_of_getElem? (i := 202) rfl))) (mvT hZ (hw _ (List.mem_of_getElem? (i := 24) rfl))) (mvT hZ (hw _ (List.mem_of_getElem? (i := 203) rfl))) (by decide) (backOf (W := 1) (own_rm_rnn1 l Z a0 hw [] st h0 n0 O0 ) hZ (hw _ (List.mem_of_getElem? (i := 203) rfl)) (hw _ (List.mem_of_getElem? (i := 24) rfl)) (by decide) (by decide)) (g := (mkF m 6 #[.val (.ref a), .val (.ref st)] [(.ref st), (.ref a)])) rfl (by rw [hml]; rfl) (argsL := [(.ref st)]) (rest := [(.ref a)]) (lenOf own_pd_12 rfl) rfl (by show 2 * 0 + _ ≤ _; exact Nat.le_of_eq rfl) (hb hby own_d30_6) (fun _ _ => ⟨rfl, eh282, (by decide : 0 + 0 ≤ _), (by decide : 0 + 0 ≤ _)⟩)
  dsimp only [Pt.U, Pt.locs, Pt.cells, Pt.slots] at X283 l283 y283 z283 st283 hQ283
  subst l283 y283 z283
  obtain ⟨rfl, N283q, eh283⟩ := hQ283
  have N283 := Fr.app N282 N283q
  refine own_go (B := T283.setTop (mkF m 9 #[.val (.ref a), .val (.ref st)] [(.ref st), (.ref a)])) (fun t k => st283 _ k) ?_
  obtain ⟨T284, h284, X284, e284, W284, st284⟩ := putF X283 hx hZ hown (host := "") (Or.inl (hw _ (List.mem_of_getElem? (i := 204) rfl))) Via.refl eh283 F2 E1 (Or.inr ⟨(hw _ (List.mem_of_getElem? (i := 205) rfl)), rfl, hnm⟩) (hw _ (List.mem_of_getElem? (i := 181) rfl)) (ty := (.object "java/lang/Object")) (by decide) rfl rfl (g := (mkF m 9 #[.val (.ref a), .val (.ref st)] [(.ref st), (.ref a)])) rfl rfl (hb hby own_d30_9)
  have Fw284 := F2.same W284
  have N284 := Fr.snoc X284 N283 G4
  have O284 := O0.wr W284 G4
  have K284 := K0.wr W284 (Or.inl (by simp))
  refine own_go (B := T284.setTop (mkF m 12 #[.val (.ref a), .val (.ref st)] [])) (fun t k => st284 _ k) ?_
  refine own_go (B := T284.setTop (mkF m 13 #[.val (.ref a), .val (.ref st)] [(.ref a)])) (fun t k => XS.aloadN X284.here hx rfl (hb hby own_d30_12) rfl rfl k) ?_
  obtain ⟨T285, X285, e285, st285⟩ := getS2 X284 hx hZ hown (Or.inr (hw _ (List.mem_of_getElem? (i := 206) rfl))) Via.refl e284 (HS.2.2.2.2.2.1.ext O284.2) (g := (mkF m 13 #[.val (.ref a), .val (.ref st)] [(.ref a)])) rfl (hb hby own_d30_13)
  refine own_go (B := T285.setTop (mkF m 16 #[.val (.ref a), .val (.ref st)] [(.ref w_EMP), (.ref a)])) (fun t k => st285 _ k) ?_
  have f286 := (F3.other W284 (Or.inr (slot_ne (Or.inr (hw _ (List.mem_of_getElem? (i := 208) rfl))) (Or.inr (hw _ (List.mem_of_getElem? (i := 205) rfl))) (by decide) (t := (.object "java/lang/Object")) (t' := (.object "java/lang/Object")) (by decide) (by decide))))
  have f287 := (E1.wr W284)
  obtain ⟨T288, h288, X288, e288, W288, st288⟩ := putF X285 hx hZ hown (host := "") (Or.inl (hw _ (List.mem_of_getElem? (i := 207) rfl))) Via.refl e285 f286 f287 (Or.inr ⟨(hw _ (List.mem_of_getElem? (i := 208) rfl)), rfl, hnm⟩) (hw _ (List.mem_of_getElem? (i := 181) rfl)) (ty := (.object "java/lang/Object")) (by decide) rfl rfl (g := (mkF m 16 #[.val (.ref a), .val (.ref st)] [(.ref w_EMP), (.ref a)])) rfl rfl (hb hby own_d30_16)
  have Fw288 := f286.same W288
  have N288 := Fr.snoc X288 N284 G4
  have O288 := O284.wr W288 G4
  have K288 := K284.wr W288 (Or.inl (by simp))
  refine own_go (B := T288.setTop (mkF m 19 #[.val (.ref a), .val (.ref st)] [])) (fun t k => st288 _ k) ?_
  obtain ⟨fs, hr, hrun, hended, hW, hsame⟩ := X288.leave (v := none) (fun _ => rfl)
  have f290 := (f287.wr W288)
  refine ⟨_, _, X288.returnOut hx Bd.returns (hb hby own_d30_19) hr, hK _ _ ⟨hrun, hended, _, _, rfl, ?_, ⟨_, rfl⟩, hW, hsame.mono (by decide) (by decide)⟩⟩
  show own_Q_l12 Z a st w_NONE w_DEF w_EMP w_EL w_ELA mir kd ke h0 n0 _ T288.heap _
  rw [e288]
  exact ⟨rfl, N288, K288, f290, Fw288⟩
theorem own_d35_0 : decode jdk_40_method_47_code 0 = .ok (.aload_n 0, 1) := by decide +kernel
theorem own_d35_1 : decode jdk_40_method_47_code 1 = .ok (.arraylength, 1) := by decide +kernel
theorem own_d35_2 : decode jdk_40_method_47_code 2 = .ok (.tableswitch 57 0 2 #[26, 32, 43], 26) := by decide +kernel
theorem own_d35_34 : decode jdk_40_method_47_code 34 = .ok (.new 96, 3) := by decide +kernel
theorem own_d35_37 : decode jdk_40_method_47_code 37 = .ok (.dup, 1) := by decide +kernel
theorem own_d35_38 : decode jdk_40_method_47_code 38 = .ok (.aload_n 0, 1) := by decide +kernel
theorem own_d35_39 : decode jdk_40_method_47_code 39 = .ok (.iconst 0, 1) := by decide +kernel
theorem own_d35_40 : decode jdk_40_method_47_code 40 = .ok (.aaload, 1) := by decide +kernel
theorem own_d35_41 : decode jdk_40_method_47_code 41 = .ok (.invokespecial 98, 3) := by decide +kernel
theorem own_pd_13 : parseMethodDescriptor "(Ljava/lang/Object;)V" = some ⟨[(.object "java/lang/Object")], none⟩ := by decide +kernel
theorem own_d35_44 : decode jdk_40_method_47_code 44 = .ok (.areturn, 1) := by decide +kernel
theorem own_pn_10 : plainName "java/util/List" = true := by first | (simp [plainName, overriddenIn]; done) | decide +kernel
theorem own_ef_lof1 (m : MethodId) (x0 : Addr)  : entryFrame m #[(.ref x0)] 2 = mkF m 0 #[.val (.ref x0), .unset] [] := by first | (simp [entryFrame, mkF, argsToLocals, Value.category]; done) | rfl
def own_Q_lof1 (Z : State) (b st : Addr) (kb : ClassId) (w_NONE w_DEF w_EMP w_EL w_ELA mir : Addr) (kd ke : ClassId) (h0 : Heap) (n0 : Nat) (v : Option Value) (h : Heap) (L : List Loc) : Prop := ∃ r : Addr, v = some (.ref r) ∧ Fr n0 L ∧ Ext h0 h ∧ h0.size ≤ r ∧ Exa Z h r "java/util/ImmutableCollections$List12" ∧ Fld Z h r "java/util/ImmutableCollections$List12" "e1" "Ljava/lang/Object;" (.ref w_EMP)
set_option maxRecDepth 65536 in
set_option maxHeartbeats 40000000 in
theorem own_rm_lof1 (l : Launch) (Z : State) (a0 : Array Value) (hw : ∀ d ∈ tables_1, d.before a0 Z = true) (ws : List Jvm.Cond) (b st : Addr) (kb : ClassId) (w_NONE w_DEF w_EMP w_EL w_ELA mir : Addr) (kd ke : ClassId) (h0 : Heap) (n0 : Nat) (O0 : Old Z n0 h0) (HS : own_St Z w_NONE w_DEF w_EMP w_EL w_ELA mir kd ke) (E1 : Exa Z h0 b "[Ljava/lang/Object;") (A2 : Arv Z h0 b kb (.object "java/lang/Object") (1 : Int32) [(.ref st)] .null) (E3 : Exa Z h0 st "com/example/invariant/invariant/State") :
    MetFree l (⟨"java/util/List", "of", "([Ljava/lang/Object;)Ljava/util/List;"⟩ : MethodName) (head1 (Jvm.Cond.code (⟨"java/util/List", "of", "([Ljava/lang/Object;)Ljava/util/List;"⟩ : MethodName) jdk_40_method_47_code 2 (some (.object "java/util/List")) :: ws) ({ frames := 5, cells := 1, slots := 2, locals := 62 } : Room)) (fun ar9 U => ar9 = #[(.ref b)] ∧ Z.Warmed39 U.vm ∧ U.heap = h0) (fun _ _ _ _ _ => True) (fun _ U o U' => ∃ v L, o = .returned v ∧ own_Q_lof1 Z b st kb w_NONE w_DEF w_EMP w_EL w_ELA mir kd ke h0 n0 v U'.heap L ∧ FrameEnd U o U' L ({ frames := 5, cells := 1, slots := 2, locals := 62 } : Room).cells ({ frames := 5, cells := 1, slots := 2, locals := 62 } : Room).slots) := by
  refine MetFree.of_bodySF (plainFor_of_name own_pn_10) hisR ?_
  intro p e s m args below meth c s₁ Bd hml0 hP hK0
  obtain ⟨rfl, hZ, hh⟩ := hP
  have hx := Bd.exec
  have hby := Bd.bytes
  have hml : c.maxLocals = 2 := hml0
  have hown : s.vm.findClass "java/util/List" = some m.cls := findClass_of_methodNamed Bd.named
  have hnm := (name_of_methodNamed Bd.named Bd.method).1
  have X0 : Stand p l e ({ frames := 5, cells := 1, slots := 2, locals := 62 } : Room) s m #[(.ref b)] below meth c s₁ [] 0 0 := Stand.of_body Bd
  have e0 : s₁.heap = h0 := by rw [← hh, Bd.state]; rfl
  have N0 := Fr.nil n0
  have K0 := Keep.refl h0 []
  refine own_open fun K hK => ?_
  refine own_go (B := s₁.setTop (mkF m 0 #[.val (.ref b), .unset] [])) (fun t k => castTop (own_ef_lof1 m b) k) ?_
  refine own_go (B := s₁.setTop (mkF m 1 #[.val (.ref b), .unset] [(.ref b)])) (fun t k => XS.aloadN X0.here hx rfl (hb hby own_d35_0) rfl rfl k) ?_
  obtain ⟨cl291, Ar291, qr291, Sr291, Nr291, Hr291, Gr291⟩ := id A2
  refine own_go (B := s₁.setTop (mkF m 2 #[.val (.ref b), .unset] [(.int (1 : Int32))])) (fun t k => X0.arraylength hx (by rw [e0]; exact Ar291.1) (State.isArrayOf_alike hZ.alike Ar291.2.1) (g := (mkF m 1 #[.val (.ref b), .unset] [(.ref b)])) rfl rfl (hb hby own_d35_1) _ (by rw [len_of Sr291 Nr291]; exact k)) ?_
  refine own_go (B := s₁.setTop (mkF m 34 #[.val (.ref b), .unset] [])) (fun t k => XS.tswIn X0.here hx rfl (o := 32) (pc0 := 2) (pc' := 34) rfl (hb hby own_d35_2) rfl (by decide) rfl (by decide) (by decide) k) ?_
  obtain ⟨T292, h292, X292, e292, E292, A292, D292, -, st292⟩ := newO X0 hx hZ hown (hw _ (List.mem_of_getElem? (i := 180) rfl)) (hw _ (List.mem_of_getElem? (i := 181) rfl)) (hw _ (List.mem_of_getElem? (i := 182) rfl)) e0 (g := (mkF m 34 #[.val (.ref b), .unset] [])) rfl (hb hby own_d35_34) (by decide) (by decide)
  obtain ⟨b292, g292⟩ : ∃ z, z = h0.size := ⟨_, rfl⟩
  rw [← g292] at A292 D292 st292
  have lt_b_292 := E1.lt
  have lt_st_292 := E3.lt
  have g_b292 : n0 ≤ b292 := Nat.le_trans (own_n0 O0) (Nat.le_of_eq g292.symm)
  have O292 := O0.ext E292
  have sz_b292 : h0.size ≤ b292 := Nat.le_trans K0.1 (Nat.le_of_eq g292.symm)
  have K292 := K0.ext E292
  have F292_205 : Fld Z h292 b292 "java/util/ImmutableCollections$List12" "e0" "Ljava/lang/Object;" .null := D292 (Or.inr (hw _ (List.mem_of_getElem? (i := 205) rfl))) (ty := (.object "java/lang/Object")) (by decide)
  have F292_208 : Fld Z h292 b292 "java/util/ImmutableCollections$List12" "e1" "Ljava/lang/Object;" .null := D292 (Or.inr (hw _ (List.mem_of_getElem? (i := 208) rfl))) (ty := (.object "java/lang/Object")) (by decide)
  refine own_go (B := T292.setTop (mkF m 37 #[.val (.ref b), .unset] [(.ref b292)])) (fun t k => st292 _ k) ?_
  refine own_go (B := T292.setTop (mkF m 38 #[.val (.ref b), .unset] [(.ref b292), (.ref b292)])) (fun t k => XS.dup X292.here hx rfl (hb hby own_d35_37) rfl rfl k) ?_
  refine own_go (B := T292.setTop (mkF m 39 #[.val (.ref b), .unset] [(.ref b), (.ref b292), (.ref b292)])) (fun t k => XS.aloadN X292.here hx rfl (hb hby own_d35_38) rfl rfl k) ?_
  refine own_go (B := T292.setTop (mkF m 40 #[.val (.ref b), .unset] [(.int (0 : Int32)), (.ref b), (.ref b292), (.ref b292)])) (fun t k => XS.iconst X292.here hx rfl (hb hby own_d35_39) k) ?_
  have f293 := (A2.ext E292)
  obtain ⟨cl294, Ar294, qr294, Sr294, Nr294, Hr294, Gr294⟩ := id f293
  have hin294 : ¬ ((0 : Int32) < 0 ∨ cl294.slots.size ≤ ((0 : Int32)).toNatClampNeg) := inb_of Sr294 ⟨by decide, by decide⟩
  have hat294 : cl294.slots[((0 : Int32)).toNatClampNeg]? = some (.ref st) := Has.at Hr294 hin294 rfl
  refine own_go (B := T292.setTop (mkF m 41 #[.val (.ref b), .unset] [(.ref st), (.ref b292), (.ref b292)])) (fun t k => X292.aaload hx (j := (0 : Int32)) (v := (.ref st)) (by rw [e292]; exact Ar294.1) (State.isArrayOf_alike hZ.alike Ar294.2.1) rfl Ar294.2.2 hin294 hat294 (g := (mkF m 40 #[.val (.ref b), .unset] [(.int (0 : Int32)), (.ref b), (.ref b292), (.ref b292)])) rfl rfl (hb hby own_d35_40) _ k) ?_
  have f296 := (E1.ext E292)
  have lt_b_295 := f296.lt
  have f297 := (E3.ext E292)
  have lt_st_295 := f297.lt
  have lt_b292_295 := A292.lt
  obtain ⟨_, _, ⟨T298, L298, k298, n298⟩, -, X298, ⟨Lc298, hQ298, l298, y298, z298⟩, st298⟩ := X292.specialBack hx (y := (⟨"java/util/ImmutableCollections$List12", "<init>", "(Ljava/lang/Object;)V"⟩ : MethodName)) rfl hown (mvT hZ (hw _ (List.mem_of_getElem? (i := 183) rfl))) (mvT hZ (hw _ (List.mem_of_getElem? (i := 184) rfl))) (mvT hZ (hw _ (List.mem_of_getElem? (i := 186) rfl))) (by decide) (backOf (W := 1) (own_rm_l12 l Z a0 hw [] b292 st w_NONE w_DEF w_EMP w_EL w_ELA mir kd ke h292 n0 O292 HS A292 F292_205 F292_208 g_b292) hZ (hw _ (List.mem_of_getElem? (i := 186) rfl)) (hw _ (List.mem_of_getElem? (i := 182) rfl)) (by decide) (by decide)) (g := (mkF m 41 #[.val (.ref b), .unset] [(.ref st), (.ref b292), (.ref b292)])) rfl (by rw [hml]; rfl) (Steps.refl _) (a := b292) (argsL := [(.ref st)]) (rest := [(.ref b292)]) (lenOf own_pd_13 rfl) rfl (by show 2 * 0 + _ ≤ _; exact Nat.le_of_eq rfl) (hb hby own_d35_41) (fun _ _ => ⟨rfl, e292, (by decide : 1 + 0 ≤ _), (by decide : 2 + 0 ≤ _)⟩)
  dsimp only [Pt.U, Pt.locs, Pt.cells, Pt.slots] at X298 l298 y298 z298 st298 hQ298
  subst l298 y298 z298
  obtain ⟨rfl, N298q, Kc298, Q298_0, Q298_1⟩ := hQ298
  have O298 := O292.keep Kc298 (allS g_b292 all0)
  have K298 := K292.trans Kc298 (allS (Or.inr sz_b292) all0)
  have N298 := Fr.app N0 N298q
  refine own_go (B := T298.setTop (mkF m 44 #[.val (.ref b), .unset] [(.ref b292)])) (fun t k => st298.trans k) ?_
  obtain ⟨fs, hr, hrun, hended, hW, hsame⟩ := X298.leave (v := some (.ref b292)) (fun h => by rw [Bd.returns] at h; cases h)
  have Ex300 : Ext h0 T298.heap := ⟨K298.1, fun x c q => K298.2.1 x c q nin0⟩
  refine ⟨_, _, own_retA X298 hx Bd.returns rfl rfl (hb hby own_d35_44) hr, hK _ _ ⟨hrun, hended, _, _, rfl, ?_, ⟨_, rfl⟩, hW, hsame.mono (by decide) (by decide)⟩⟩
  show own_Q_lof1 Z b st kb w_NONE w_DEF w_EMP w_EL w_ELA mir kd ke h0 n0 _ T298.heap _
  exact ⟨b292, rfl, N298, Ex300, sz_b292, Q298_0, Q298_1⟩
theorem own_d34_0 : decode jdk_40_method_36_code 0 = .ok (.getstatic 90, 3) := by decide +kernel
theorem own_d34_3 : decode jdk_40_method_36_code 3 = .ok (.areturn, 1) := by decide +kernel
theorem own_ef_lof0 (m : MethodId)   : entryFrame m #[] 0 = mkF m 0 #[] [] := by first | (simp [entryFrame, mkF, argsToLocals, Value.category]; done) | rfl
def own_Q_lof0 (Z : State) (w_NONE w_DEF w_EMP w_EL w_ELA mir : Addr) (kd ke : ClassId) (h0 : Heap) (n0 : Nat) (v : Option Value) (h : Heap) (L : List Loc) : Prop := v = some (.ref w_EL) ∧ Fr n0 L ∧ h = h0
set_option maxRecDepth 65536 in
set_option maxHeartbeats 40000000 in
theorem own_rm_lof0 (l : Launch) (Z : State) (a0 : Array Value) (hw : ∀ d ∈ tables_1, d.before a0 Z = true) (ws : List Jvm.Cond) (w_NONE w_DEF w_EMP w_EL w_ELA mir : Addr) (kd ke : ClassId) (h0 : Heap) (n0 : Nat) (O0 : Old Z n0 h0) (HS : own_St Z w_NONE w_DEF w_EMP w_EL w_ELA mir kd ke) :
    MetFree l (⟨"java/util/List", "of", "()Ljava/util/List;"⟩ : MethodName) (head1 (Jvm.Cond.code (⟨"java/util/List", "of", "()Ljava/util/List;"⟩ : MethodName) jdk_40_method_36_code 0 (some (.object "java/util/List")) :: ws) ({ frames := 0, cells := 0, slots := 0, locals := 0 } : Room)) (fun ar9 U => ar9 = #[] ∧ Z.Warmed39 U.vm ∧ U.heap = h0) (fun _ _ _ _ _ => True) (fun _ U o U' => ∃ v L, o = .returned v ∧ own_Q_lof0 Z w_NONE w_DEF w_EMP w_EL w_ELA mir kd ke h0 n0 v U'.heap L ∧ FrameEnd U o U' L ({ frames := 0, cells := 0, slots := 0, locals := 0 } : Room).cells ({ frames := 0, cells := 0, slots := 0, locals := 0 } : Room).slots) := by
  refine MetFree.of_bodySF (plainFor_of_name own_pn_10) hisR ?_
  intro p e s m args below meth c s₁ Bd hml0 hP hK0
  obtain ⟨rfl, hZ, hh⟩ := hP
  have hx := Bd.exec
  have hby := Bd.bytes
  have hml : c.maxLocals = 0 := hml0
  have hown : s.vm.findClass "java/util/List" = some m.cls := findClass_of_methodNamed Bd.named
  have hnm := (name_of_methodNamed Bd.named Bd.method).1
  have X0 : Stand p l e ({ frames := 0, cells := 0, slots := 0, locals := 0 } : Room) s m #[] below meth c s₁ [] 0 0 := Stand.of_body Bd
  have e0 : s₁.heap = h0 := by rw [← hh, Bd.state]; rfl
  have N0 := Fr.nil n0
  refine own_open fun K hK => ?_
  refine own_go (B := s₁.setTop (mkF m 0 #[] [])) (fun t k => castTop (own_ef_lof0 m ) k) ?_
  obtain ⟨T301, X301, e301, st301⟩ := getS2 X0 hx hZ hown (host := "") (Or.inl (hw _ (List.mem_of_getElem? (i := 214) rfl))) Via.refl e0 (HS.2.2.2.2.2.2.1.ext O0.2) (g := (mkF m 0 #[] [])) rfl (hb hby own_d34_0)
  refine own_go (B := T301.setTop (mkF m 3 #[] [(.ref w_EL)])) (fun t k => st301 _ k) ?_
  obtain ⟨fs, hr, hrun, hended, hW, hsame⟩ := X301.leave (v := some (.ref w_EL)) (fun h => by rw [Bd.returns] at h; cases h)
  refine ⟨_, _, own_retA X301 hx Bd.returns rfl rfl (hb hby own_d34_3) hr, hK _ _ ⟨hrun, hended, _, _, rfl, ?_, ⟨_, rfl⟩, hW, hsame.mono (by decide) (by decide)⟩⟩
  show own_Q_lof0 Z w_NONE w_DEF w_EMP w_EL w_ELA mir kd ke h0 n0 _ T301.heap _
  rw [e301]
  exact ⟨rfl, N0, rfl⟩
theorem own_d27_0 : decode jdk_56_method_3_code 0 = .ok (.aload_n 0, 1) := by decide +kernel
theorem own_d27_1 : decode jdk_56_method_3_code 1 = .ok (.instanceof 10, 3) := by decide +kernel
theorem own_d27_4 : decode jdk_56_method_3_code 4 = .ok (.ifCond .ne 22, 3) := by decide +kernel
theorem own_d27_7 : decode jdk_56_method_3_code 7 = .ok (.aload_n 0, 1) := by decide +kernel
theorem own_d27_8 : decode jdk_56_method_3_code 8 = .ok (.instanceof 12, 3) := by decide +kernel
theorem own_d27_11 : decode jdk_56_method_3_code 11 = .ok (.ifCond .eq 20, 3) := by decide +kernel
theorem own_d27_31 : decode jdk_56_method_3_code 31 = .ok (.aload_n 0, 1) := by decide +kernel
theorem own_d27_32 : decode jdk_56_method_3_code 32 = .ok (.invokeinterface 20 1, 5) := by decide +kernel
theorem own_pd_14 : parseMethodDescriptor "()Z" = some ⟨[], some .boolean⟩ := by decide +kernel
theorem own_d27_37 : decode jdk_56_method_3_code 37 = .ok (.ifCond .eq 7, 3) := by decide +kernel
theorem own_d27_44 : decode jdk_56_method_3_code 44 = .ok (.aload_n 0, 1) := by decide +kernel
theorem own_d27_45 : decode jdk_56_method_3_code 45 = .ok (.invokeinterface 30 1, 5) := by decide +kernel
theorem own_d27_50 : decode jdk_56_method_3_code 50 = .ok (.invokestatic 34, 3) := by decide +kernel
theorem own_pd_15 : parseMethodDescriptor "([Ljava/lang/Object;)Ljava/util/List;" = some ⟨[(.array (.object "java/lang/Object"))], some (.object "java/util/List")⟩ := by decide +kernel
theorem own_d27_53 : decode jdk_56_method_3_code 53 = .ok (.areturn, 1) := by decide +kernel
theorem own_pn_11 : plainName "java/util/ImmutableCollections" = true := by first | (simp [plainName, overriddenIn]; done) | decide +kernel
theorem own_ef_lcA1 (m : MethodId) (x0 : Addr)  : entryFrame m #[(.ref x0)] 2 = mkF m 0 #[.val (.ref x0), .unset] [] := by first | (simp [entryFrame, mkF, argsToLocals, Value.category]; done) | rfl
def own_Q_lcA1 (Z : State) (a b st : Addr) (kb : ClassId) (w_NONE w_DEF w_EMP w_EL w_ELA mir : Addr) (kd ke : ClassId) (h0 : Heap) (n0 : Nat) (v : Option Value) (h : Heap) (L : List Loc) : Prop := ∃ r : Addr, v = some (.ref r) ∧ Fr n0 L ∧ Ext h0 h ∧ h0.size ≤ r ∧ Exa Z h r "java/util/ImmutableCollections$List12" ∧ Fld Z h r "java/util/ImmutableCollections$List12" "e1" "Ljava/lang/Object;" (.ref w_EMP)
set_option maxRecDepth 65536 in
set_option maxHeartbeats 40000000 in
theorem own_rm_lcA1 (l : Launch) (Z : State) (a0 : Array Value) (hw : ∀ d ∈ tables_1, d.before a0 Z = true) (ws : List Jvm.Cond) (a b st : Addr) (kb : ClassId) (w_NONE w_DEF w_EMP w_EL w_ELA mir : Addr) (kd ke : ClassId) (h0 : Heap) (n0 : Nat) (O0 : Old Z n0 h0) (HS : own_St Z w_NONE w_DEF w_EMP w_EL w_ELA mir kd ke) (E1 : Exa Z h0 a "java/util/ArrayList") (F2 : Fld Z h0 a "java/util/AbstractList" "modCount" "I" (.int (1 : Int32))) (F3 : Fld Z h0 a "java/util/ArrayList" "elementData" "[Ljava/lang/Object;" (.ref b)) (F4 : Fld Z h0 a "java/util/ArrayList" "size" "I" (.int (1 : Int32))) (E5 : Exa Z h0 b "[Ljava/lang/Object;") (A6 : Arv Z h0 b kb (.object "java/lang/Object") (10 : Int32) [(.ref st), .null, .null, .null, .null, .null, .null, .null, .null, .null] .null) (E7 : Exa Z h0 st "com/example/invariant/invariant/State") :
    MetFree l (⟨"java/util/ImmutableCollections", "listCopy", "(Ljava/util/Collection;)Ljava/util/List;"⟩ : MethodName) (head1 (Jvm.Cond.code (⟨"java/util/ImmutableCollections", "listCopy", "(Ljava/util/Collection;)Ljava/util/List;"⟩ : MethodName) jdk_56_method_3_code 2 (some (.object "java/util/List")) :: ws) ({ frames := 6, cells := 2, slots := 3, locals := 100 } : Room)) (fun ar9 U => ar9 = #[(.ref a)] ∧ Z.Warmed39 U.vm ∧ U.heap = h0) (fun _ _ _ _ _ => True) (fun _ U o U' => ∃ v L, o = .returned v ∧ own_Q_lcA1 Z a b st kb w_NONE w_DEF w_EMP w_EL w_ELA mir kd ke h0 n0 v U'.heap L ∧ FrameEnd U o U' L ({ frames := 6, cells := 2, slots := 3, locals := 100 } : Room).cells ({ frames := 6, cells := 2, slots := 3, locals := 100 } : Room).slots) := by
  refine MetFree.of_bodySF (plainFor_of_name own_pn_11) hisR ?_
  intro p e s m args below meth c s₁ Bd hml0 hP hK0
  obtain ⟨rfl, hZ, hh⟩ := hP
  have hx := Bd.exec
  have hby := Bd.bytes
  have hml : c.maxLocals = 2 := hml0
  have hown : s.vm.findClass "java/util/ImmutableCollections" = some m.cls := findClass_of_methodNamed Bd.named
  have hnm := (name_of_methodNamed Bd.named Bd.method).1
  have X0 : Stand p l e ({ frames := 6, cells := 2, slots := 3, locals := 100 } : Room) s m #[(.ref a)] below meth c s₁ [] 0 0 := Stand.of_body Bd
  have e0 : s₁.heap = h0 := by rw [← hh, Bd.state]; rfl
  have N0 := Fr.nil n0
  have K0 := Keep.refl h0 []
  refine own_open fun K hK => ?_
  refine own_go (B := s₁.setTop (mkF m 0 #[.val (.ref a), .unset] [])) (fun t k => castTop (own_ef_lcA1 m a) k) ?_
  have ni0 := own_noIns (a0 := a0) E1 (show own_Chain Z a0 ["java/util/ArrayList", "java/util/AbstractList", "java/util/AbstractCollection", "java/lang/Object"] from ⟨(hw _ (List.mem_of_getElem? (i := 134) rfl)), (hw _ (List.mem_of_getElem? (i := 135) rfl)), (hw _ (List.mem_of_getElem? (i := 136) rfl)), (hw _ (List.mem_of_getElem? (i := 137) rfl))⟩) (K := "java/util/ImmutableCollections$List12") (by decide) (own_Cls.ofI (hw _ (List.mem_of_getElem? (i := 181) rfl)))
  have ni1 := own_noIns (a0 := a0) E1 (show own_Chain Z a0 ["java/util/ArrayList", "java/util/AbstractList", "java/util/AbstractCollection", "java/lang/Object"] from ⟨(hw _ (List.mem_of_getElem? (i := 134) rfl)), (hw _ (List.mem_of_getElem? (i := 135) rfl)), (hw _ (List.mem_of_getElem? (i := 136) rfl)), (hw _ (List.mem_of_getElem? (i := 137) rfl))⟩) (K := "java/util/ImmutableCollections$ListN") (by decide) (own_Cls.ofS (hw _ (List.mem_of_getElem? (i := 254) rfl)))
  refine own_go (B := s₁.setTop (mkF m 1 #[.val (.ref a), .unset] [(.ref a)])) (fun t k => XS.aloadN X0.here hx rfl (hb hby own_d27_0) rfl rfl k) ?_
  obtain ⟨T303, X303, e303, st303⟩ := instN X0 hx hZ hown (hw _ (List.mem_of_getElem? (i := 133) rfl)) e0 (by rw [hh]; exact ni0) (by rw [hh]; exact E1) (g := (mkF m 1 #[.val (.ref a), .unset] [(.ref a)])) rfl rfl (hb hby own_d27_1)
  refine own_go (B := T303.setTop (mkF m 4 #[.val (.ref a), .unset] [(.int (0 : Int32))])) (fun t k => st303 _ k) ?_
  refine own_go (B := T303.setTop (mkF m 7 #[.val (.ref a), .unset] [])) (fun t k => XS.ifNo X303.here hx rfl (hb hby own_d27_4) rfl ((if0 _ _).trans (teq (by decide : (0 : Int32) = (0 : Int32))).2) k) ?_
  refine own_go (B := T303.setTop (mkF m 8 #[.val (.ref a), .unset] [(.ref a)])) (fun t k => XS.aloadN X303.here hx rfl (hb hby own_d27_7) rfl rfl k) ?_
  obtain ⟨T305, X305, e305, st305⟩ := instN X303 hx hZ hown (hw _ (List.mem_of_getElem? (i := 138) rfl)) e303 (by rw [hh]; exact ni1) (by rw [hh]; exact E1) (g := (mkF m 8 #[.val (.ref a), .unset] [(.ref a)])) rfl rfl (hb hby own_d27_8)
  refine own_go (B := T305.setTop (mkF m 11 #[.val (.ref a), .unset] [(.int (0 : Int32))])) (fun t k => st305 _ k) ?_
  refine own_go (B := T305.setTop (mkF m 31 #[.val (.ref a), .unset] [])) (fun t k => XS.ifYes X305.here hx rfl (pc0 := 11) (pc' := 31) rfl (hb hby own_d27_11) rfl ((if0 _ _).trans (teq (by decide : (0 : Int32) = (0 : Int32))).1) (by decide) (by decide) k) ?_
  refine own_go (B := T305.setTop (mkF m 32 #[.val (.ref a), .unset] [(.ref a)])) (fun t k => XS.aloadN X305.here hx rfl (hb hby own_d27_31) rfl rfl k) ?_
  obtain ⟨cq307, kq307, q307a, q307b, q307c⟩ := isOf hZ e305 E1
  obtain ⟨_, _, ⟨T307, L307, k307, n307⟩, -, X307, ⟨Lc307, hQ307, l307, y307, z307⟩, st307⟩ := X305.interfaceBack hx (xi := (⟨"java/util/Collection", "isEmpty", "()Z"⟩ : MethodName)) (y := (⟨"java/util/ArrayList", "isEmpty", "()Z"⟩ : MethodName)) hown (mvT hZ (hw _ (List.mem_of_getElem? (i := 139) rfl))) (mvT hZ (hw _ (List.mem_of_getElem? (i := 140) rfl))) (mvT hZ (hw _ (List.mem_of_getElem? (i := 141) rfl))) (mvT hZ (hw _ (List.mem_of_getElem? (i := 142) rfl))) (mvT hZ (hw _ (List.mem_of_getElem? (i := 143) rfl))) (mvT hZ (hw _ (List.mem_of_getElem? (i := 144) rfl))) (mvT hZ (hw _ (List.mem_of_getElem? (i := 145) rfl))) (mvT hZ (hw _ (List.mem_of_getElem? (i := 146) rfl))) (by decide) (backOf (W := 0) (own_rm_empty1 l Z a0 hw [] a h0 n0 O0 F4) hZ (hw _ (List.mem_of_getElem? (i := 147) rfl)) (hw _ (List.mem_of_getElem? (i := 53) rfl)) (by decide) (by decide)) q307a q307b q307c (g := (mkF m 32 #[.val (.ref a), .unset] [(.ref a)])) rfl (by rw [hml]; rfl) (Steps.refl _) (argsL := []) (rest := []) (lenOf own_pd_14 rfl) rfl (by show 2 * 0 + _ ≤ _; exact Nat.le_of_eq rfl) (hb hby own_d27_32) (fun _ _ => ⟨rfl, e305, (by decide : 0 + 0 ≤ _), (by decide : 0 + 0 ≤ _)⟩)
  dsimp only [Pt.U, Pt.locs, Pt.cells, Pt.slots] at X307 l307 y307 z307 st307 hQ307
  subst l307 y307 z307
  obtain ⟨rfl, N307q, eh307⟩ := hQ307
  have N307 := Fr.app N0 N307q
  refine own_go (B := T307.setTop (mkF m 37 #[.val (.ref a), .unset] [(.int (0 : Int32))])) (fun t k => st307.trans k) ?_
  refine own_go (B := T307.setTop (mkF m 44 #[.val (.ref a), .unset] [])) (fun t k => XS.ifYes X307.here hx rfl (pc0 := 37) (pc' := 44) rfl (hb hby own_d27_37) rfl ((if0 _ _).trans (teq (by decide : (0 : Int32) = (0 : Int32))).1) (by decide) (by decide) k) ?_
  refine own_go (B := T307.setTop (mkF m 45 #[.val (.ref a), .unset] [(.ref a)])) (fun t k => XS.aloadN X307.here hx rfl (hb hby own_d27_44) rfl rfl k) ?_
  have lt_a_309 := E1.lt
  have lt_b_309 := E5.lt
  have lt_st_309 := E7.lt
  obtain ⟨cq310, kq310, q310a, q310b, q310c⟩ := isOf hZ eh307 E1
  obtain ⟨_, _, ⟨T310, L310, k310, n310⟩, -, X310, ⟨Lc310, hQ310, l310, y310, z310⟩, st310⟩ := X307.interfaceBack hx (xi := (⟨"java/util/Collection", "toArray", "()[Ljava/lang/Object;"⟩ : MethodName)) (y := (⟨"java/util/ArrayList", "toArray", "()[Ljava/lang/Object;"⟩ : MethodName)) hown (mvT hZ (hw _ (List.mem_of_getElem? (i := 148) rfl))) (mvT hZ (hw _ (List.mem_of_getElem? (i := 149) rfl))) (mvT hZ (hw _ (List.mem_of_getElem? (i := 150) rfl))) (mvT hZ (hw _ (List.mem_of_getElem? (i := 151) rfl))) (mvT hZ (hw _ (List.mem_of_getElem? (i := 152) rfl))) (mvT hZ (hw _ (List.mem_of_getElem? (i := 153) rfl))) (mvT hZ (hw _ (List.mem_of_getElem? (i := 154) rfl))) (mvT hZ (hw _ (List.mem_of_getElem? (i := 146) rfl))) (by decide) (backOf (W := 0) (own_rm_toArray l Z a0 hw [] a b st kb w_NONE w_DEF w_EMP w_EL w_ELA mir kd ke h0 n0 O0 HS E1 F2 F3 F4 E5 A6 E7) hZ (hw _ (List.mem_of_getElem? (i := 155) rfl)) (hw _ (List.mem_of_getElem? (i := 53) rfl)) (by decide) (by decide)) q310a q310b q310c (g := (mkF m 45 #[.val (.ref a), .unset] [(.ref a)])) rfl (by rw [hml]; rfl) (Steps.refl _) (argsL := []) (rest := []) (lenOf own_pd_8 rfl) rfl (by show 2 * 0 + _ ≤ _; exact Nat.le_of_eq rfl) (hb hby own_d27_45) (fun _ _ => ⟨rfl, eh307, (by decide : 0 + 1 ≤ _), (by decide : 0 + 1 ≤ _)⟩)
  dsimp only [Pt.U, Pt.locs, Pt.cells, Pt.slots] at X310 l310 y310 z310 st310 hQ310
  subst l310 y310 z310
  obtain ⟨r_310, kr_310, rfl, N310q, Kc310, Q310_0, Q310_1, Q310_2⟩ := hQ310
  have E310 := Kc310
  have O310 := O0.ext E310
  have K310 := K0.ext E310
  have N310 := Fr.app N307 N310q
  refine own_go (B := T310.setTop (mkF m 50 #[.val (.ref a), .unset] [(.ref r_310)])) (fun t k => st310.trans k) ?_
  have g_r_310 : n0 ≤ r_310 := Nat.le_trans (own_n0 O0) Q310_0
  have sz_r_310 : h0.size ≤ r_310 := Nat.le_trans K0.1 Q310_0
  have f311 := (E7.ext E310)
  have f313 := (E1.ext E310)
  have lt_a_312 := f313.lt
  have f314 := (E5.ext E310)
  have lt_b_312 := f314.lt
  have lt_st_312 := f311.lt
  have lt_r_310_312 := Q310_1.lt
  obtain ⟨_, _, ⟨T315, L315, k315, n315⟩, -, X315, ⟨Lc315, hQ315, l315, y315, z315⟩, st315⟩ := Jvm.LawKit.callS X310 hx (y := (⟨"java/util/List", "of", "([Ljava/lang/Object;)Ljava/util/List;"⟩ : MethodName)) hown (mvT hZ (hw _ (List.mem_of_getElem? (i := 177) rfl))) (mvT hZ (hw _ (List.mem_of_getElem? (i := 178) rfl))) (mvT hZ (hw _ (List.mem_of_getElem? (i := 127) rfl))) (mvT hZ (hw _ (List.mem_of_getElem? (i := 179) rfl))) (by decide) (backOf (W := 0) (own_rm_lof1 l Z a0 hw [] r_310 st kr_310 w_NONE w_DEF w_EMP w_EL w_ELA mir kd ke T310.heap n0 O310 HS Q310_1 Q310_2 f311) hZ (hw _ (List.mem_of_getElem? (i := 179) rfl)) (hw _ (List.mem_of_getElem? (i := 127) rfl)) (by decide) (by decide)) (g := (mkF m 50 #[.val (.ref a), .unset] [(.ref r_310)])) rfl (by rw [hml]; rfl) (argsL := [(.ref r_310)]) (rest := []) (lenOf own_pd_15 rfl) rfl (by show 2 * 0 + _ ≤ _; exact Nat.le_of_eq rfl) (hb hby own_d27_50) (fun _ _ => ⟨rfl, (rfl : T310.heap = T310.heap), (by decide : 1 + 1 ≤ _), (by decide : 1 + 2 ≤ _)⟩)
  dsimp only [Pt.U, Pt.locs, Pt.cells, Pt.slots] at X315 l315 y315 z315 st315 hQ315
  subst l315 y315 z315
  obtain ⟨r_315, rfl, N315q, Kc315, Q315_0, Q315_1, Q315_2⟩ := hQ315
  have E315 := Kc315
  have O315 := O310.ext E315
  have K315 := K310.ext E315
  have N315 := Fr.app N310 N315q
  refine own_go (B := T315.setTop (mkF m 53 #[.val (.ref a), .unset] [(.ref r_315)])) (fun t k => st315 _ k) ?_
  have g_r_315 : n0 ≤ r_315 := Nat.le_trans (own_n0 O310) Q315_0
  have sz_r_315 : h0.size ≤ r_315 := Nat.le_trans K310.1 Q315_0
  obtain ⟨fs, hr, hrun, hended, hW, hsame⟩ := X315.leave (v := some (.ref r_315)) (fun h => by rw [Bd.returns] at h; cases h)
  have Ex317 : Ext h0 T315.heap := ⟨K315.1, fun x c q => K315.2.1 x c q nin0⟩
  refine ⟨_, _, own_retA X315 hx Bd.returns rfl rfl (hb hby own_d27_53) hr, hK _ _ ⟨hrun, hended, _, _, rfl, ?_, ⟨_, rfl⟩, hW, hsame.mono (by decide) (by decide)⟩⟩
  show own_Q_lcA1 Z a b st kb w_NONE w_DEF w_EMP w_EL w_ELA mir kd ke h0 n0 _ T315.heap _
  exact ⟨r_315, rfl, N315, Ex317, sz_r_315, Q315_1, Q315_2⟩
theorem own_d27_40 : decode jdk_56_method_3_code 40 = .ok (.invokestatic 26, 3) := by decide +kernel
theorem own_pd_16 : parseMethodDescriptor "()Ljava/util/List;" = some ⟨[], some (.object "java/util/List")⟩ := by decide +kernel
theorem own_d27_43 : decode jdk_56_method_3_code 43 = .ok (.areturn, 1) := by decide +kernel
theorem own_ef_lcA0 (m : MethodId) (x0 : Addr)  : entryFrame m #[(.ref x0)] 2 = mkF m 0 #[.val (.ref x0), .unset] [] := by first | (simp [entryFrame, mkF, argsToLocals, Value.category]; done) | rfl
def own_Q_lcA0 (Z : State) (a : Addr) (w_NONE w_DEF w_EMP w_EL w_ELA mir : Addr) (kd ke : ClassId) (h0 : Heap) (n0 : Nat) (v : Option Value) (h : Heap) (L : List Loc) : Prop := v = some (.ref w_EL) ∧ Fr n0 L ∧ h = h0
set_option maxRecDepth 65536 in
set_option maxHeartbeats 40000000 in
theorem own_rm_lcA0 (l : Launch) (Z : State) (a0 : Array Value) (hw : ∀ d ∈ tables_1, d.before a0 Z = true) (ws : List Jvm.Cond) (a : Addr) (w_NONE w_DEF w_EMP w_EL w_ELA mir : Addr) (kd ke : ClassId) (h0 : Heap) (n0 : Nat) (O0 : Old Z n0 h0) (HS : own_St Z w_NONE w_DEF w_EMP w_EL w_ELA mir kd ke) (E1 : Exa Z h0 a "java/util/ArrayList") (F2 : Fld Z h0 a "java/util/AbstractList" "modCount" "I" (.int (0 : Int32))) (F3 : Fld Z h0 a "java/util/ArrayList" "elementData" "[Ljava/lang/Object;" (.ref w_DEF)) (F4 : Fld Z h0 a "java/util/ArrayList" "size" "I" (.int (0 : Int32))) :
    MetFree l (⟨"java/util/ImmutableCollections", "listCopy", "(Ljava/util/Collection;)Ljava/util/List;"⟩ : MethodName) (head1 (Jvm.Cond.code (⟨"java/util/ImmutableCollections", "listCopy", "(Ljava/util/Collection;)Ljava/util/List;"⟩ : MethodName) jdk_56_method_3_code 2 (some (.object "java/util/List")) :: ws) ({ frames := 1, cells := 0, slots := 0, locals := 12 } : Room)) (fun ar9 U => ar9 = #[(.ref a)] ∧ Z.Warmed39 U.vm ∧ U.heap = h0) (fun _ _ _ _ _ => True) (fun _ U o U' => ∃ v L, o = .returned v ∧ own_Q_lcA0 Z a w_NONE w_DEF w_EMP w_EL w_ELA mir kd ke h0 n0 v U'.heap L ∧ FrameEnd U o U' L ({ frames := 1, cells := 0, slots := 0, locals := 12 } : Room).cells ({ frames := 1, cells := 0, slots := 0, locals := 12 } : Room).slots) := by
  refine MetFree.of_bodySF (plainFor_of_name own_pn_11) hisR ?_
  intro p e s m args below meth c s₁ Bd hml0 hP hK0
  obtain ⟨rfl, hZ, hh⟩ := hP
  have hx := Bd.exec
  have hby := Bd.bytes
  have hml : c.maxLocals = 2 := hml0
  have hown : s.vm.findClass "java/util/ImmutableCollections" = some m.cls := findClass_of_methodNamed Bd.named
  have hnm := (name_of_methodNamed Bd.named Bd.method).1
  have X0 : Stand p l e ({ frames := 1, cells := 0, slots := 0, locals := 12 } : Room) s m #[(.ref a)] below meth c s₁ [] 0 0 := Stand.of_body Bd
  have e0 : s₁.heap = h0 := by rw [← hh, Bd.state]; rfl
  have N0 := Fr.nil n0
  refine own_open fun K hK => ?_
  refine own_go (B := s₁.setTop (mkF m 0 #[.val (.ref a), .unset] [])) (fun t k => castTop (own_ef_lcA0 m a) k) ?_
  have ni0 := own_noIns (a0 := a0) E1 (show own_Chain Z a0 ["java/util/ArrayList", "java/util/AbstractList", "java/util/AbstractCollection", "java/lang/Object"] from ⟨(hw _ (List.mem_of_getElem? (i := 134) rfl)), (hw _ (List.mem_of_getElem? (i := 135) rfl)), (hw _ (List.mem_of_getElem? (i := 136) rfl)), (hw _ (List.mem_of_getElem? (i := 137) rfl))⟩) (K := "java/util/ImmutableCollections$List12") (by decide) (own_Cls.ofI (hw _ (List.mem_of_getElem? (i := 181) rfl)))
  have ni1 := own_noIns (a0 := a0) E1 (show own_Chain Z a0 ["java/util/ArrayList", "java/util/AbstractList", "java/util/AbstractCollection", "java/lang/Object"] from ⟨(hw _ (List.mem_of_getElem? (i := 134) rfl)), (hw _ (List.mem_of_getElem? (i := 135) rfl)), (hw _ (List.mem_of_getElem? (i := 136) rfl)), (hw _ (List.mem_of_getElem? (i := 137) rfl))⟩) (K := "java/util/ImmutableCollections$ListN") (by decide) (own_Cls.ofS (hw _ (List.mem_of_getElem? (i := 254) rfl)))
  refine own_go (B := s₁.setTop (mkF m 1 #[.val (.ref a), .unset] [(.ref a)])) (fun t k => XS.aloadN X0.here hx rfl (hb hby own_d27_0) rfl rfl k) ?_
  obtain ⟨T318, X318, e318, st318⟩ := instN X0 hx hZ hown (hw _ (List.mem_of_getElem? (i := 133) rfl)) e0 (by rw [hh]; exact ni0) (by rw [hh]; exact E1) (g := (mkF m 1 #[.val (.ref a), .unset] [(.ref a)])) rfl rfl (hb hby own_d27_1)
  refine own_go (B := T318.setTop (mkF m 4 #[.val (.ref a), .unset] [(.int (0 : Int32))])) (fun t k => st318 _ k) ?_
  refine own_go (B := T318.setTop (mkF m 7 #[.val (.ref a), .unset] [])) (fun t k => XS.ifNo X318.here hx rfl (hb hby own_d27_4) rfl ((if0 _ _).trans (teq (by decide : (0 : Int32) = (0 : Int32))).2) k) ?_
  refine own_go (B := T318.setTop (mkF m 8 #[.val (.ref a), .unset] [(.ref a)])) (fun t k => XS.aloadN X318.here hx rfl (hb hby own_d27_7) rfl rfl k) ?_
  obtain ⟨T320, X320, e320, st320⟩ := instN X318 hx hZ hown (hw _ (List.mem_of_getElem? (i := 138) rfl)) e318 (by rw [hh]; exact ni1) (by rw [hh]; exact E1) (g := (mkF m 8 #[.val (.ref a), .unset] [(.ref a)])) rfl rfl (hb hby own_d27_8)
  refine own_go (B := T320.setTop (mkF m 11 #[.val (.ref a), .unset] [(.int (0 : Int32))])) (fun t k => st320 _ k) ?_
  refine own_go (B := T320.setTop (mkF m 31 #[.val (.ref a), .unset] [])) (fun t k => XS.ifYes X320.here hx rfl (pc0 := 11) (pc' := 31) rfl (hb hby own_d27_11) rfl ((if0 _ _).trans (teq (by decide : (0 : Int32) = (0 : Int32))).1) (by decide) (by decide) k) ?_
  refine own_go (B := T320.setTop (mkF m 32 #[.val (.ref a), .unset] [(.ref a)])) (fun t k => XS.aloadN X320.here hx rfl (hb hby own_d27_31) rfl rfl k) ?_
  obtain ⟨cq322, kq322, q322a, q322b, q322c⟩ := isOf hZ e320 E1
  obtain ⟨_, _, ⟨T322, L322, k322, n322⟩, -, X322, ⟨Lc322, hQ322, l322, y322, z322⟩, st322⟩ := X320.interfaceBack hx (xi := (⟨"java/util/Collection", "isEmpty", "()Z"⟩ : MethodName)) (y := (⟨"java/util/ArrayList", "isEmpty", "()Z"⟩ : MethodName)) hown (mvT hZ (hw _ (List.mem_of_getElem? (i := 139) rfl))) (mvT hZ (hw _ (List.mem_of_getElem? (i := 140) rfl))) (mvT hZ (hw _ (List.mem_of_getElem? (i := 141) rfl))) (mvT hZ (hw _ (List.mem_of_getElem? (i := 142) rfl))) (mvT hZ (hw _ (List.mem_of_getElem? (i := 143) rfl))) (mvT hZ (hw _ (List.mem_of_getElem? (i := 144) rfl))) (mvT hZ (hw _ (List.mem_of_getElem? (i := 145) rfl))) (mvT hZ (hw _ (List.mem_of_getElem? (i := 146) rfl))) (by decide) (backOf (W := 0) (own_rm_empty0 l Z a0 hw [] a h0 n0 O0 F4) hZ (hw _ (List.mem_of_getElem? (i := 147) rfl)) (hw _ (List.mem_of_getElem? (i := 53) rfl)) (by decide) (by decide)) q322a q322b q322c (g := (mkF m 32 #[.val (.ref a), .unset] [(.ref a)])) rfl (by rw [hml]; rfl) (Steps.refl _) (argsL := []) (rest := []) (lenOf own_pd_14 rfl) rfl (by show 2 * 0 + _ ≤ _; exact Nat.le_of_eq rfl) (hb hby own_d27_32) (fun _ _ => ⟨rfl, e320, (by decide : 0 + 0 ≤ _), (by decide : 0 + 0 ≤ _)⟩)
  dsimp only [Pt.U, Pt.locs, Pt.cells, Pt.slots] at X322 l322 y322 z322 st322 hQ322
  subst l322 y322 z322
  obtain ⟨rfl, N322q, eh322⟩ := hQ322
  have N322 := Fr.app N0 N322q
  refine own_go (B := T322.setTop (mkF m 37 #[.val (.ref a), .unset] [(.int (1 : Int32))])) (fun t k => st322.trans k) ?_
  refine own_go (B := T322.setTop (mkF m 40 #[.val (.ref a), .unset] [])) (fun t k => XS.ifNo X322.here hx rfl (hb hby own_d27_37) rfl ((if0 _ _).trans (feq (by decide : ¬ ((1 : Int32) = (0 : Int32)))).1) k) ?_
  obtain ⟨_, _, ⟨T324, L324, k324, n324⟩, -, X324, ⟨Lc324, hQ324, l324, y324, z324⟩, st324⟩ := Jvm.LawKit.callS X322 hx (y := (⟨"java/util/List", "of", "()Ljava/util/List;"⟩ : MethodName)) hown (mvT hZ (hw _ (List.mem_of_getElem? (i := 211) rfl))) (mvT hZ (hw _ (List.mem_of_getElem? (i := 212) rfl))) (mvT hZ (hw _ (List.mem_of_getElem? (i := 127) rfl))) (mvT hZ (hw _ (List.mem_of_getElem? (i := 213) rfl))) (by decide) (backOf (W := 0) (own_rm_lof0 l Z a0 hw [] w_NONE w_DEF w_EMP w_EL w_ELA mir kd ke h0 n0 O0 HS) hZ (hw _ (List.mem_of_getElem? (i := 213) rfl)) (hw _ (List.mem_of_getElem? (i := 127) rfl)) (by decide) (by decide)) (g := (mkF m 40 #[.val (.ref a), .unset] [])) rfl (by rw [hml]; rfl) (argsL := []) (rest := []) (lenOf own_pd_16 rfl) rfl (by show 2 * 0 + _ ≤ _; exact Nat.le_of_eq rfl) (hb hby own_d27_40) (fun _ _ => ⟨rfl, eh322, (by decide : 0 + 0 ≤ _), (by decide : 0 + 0 ≤ _)⟩)
  dsimp only [Pt.U, Pt.locs, Pt.cells, Pt.slots] at X324 l324 y324 z324 st324 hQ324
  subst l324 y324 z324
  obtain ⟨rfl, N324q, eh324⟩ := hQ324
  have N324 := Fr.app N322 N324q
  refine own_go (B := T324.setTop (mkF m 43 #[.val (.ref a), .unset] [(.ref w_EL)])) (fun t k => st324 _ k) ?_
  obtain ⟨fs, hr, hrun, hended, hW, hsame⟩ := X324.leave (v := some (.ref w_EL)) (fun h => by rw [Bd.returns] at h; cases h)
  refine ⟨_, _, own_retA X324 hx Bd.returns rfl rfl (hb hby own_d27_43) hr, hK _ _ ⟨hrun, hended, _, _, rfl, ?_, ⟨_, rfl⟩, hW, hsame.mono (by decide) (by decide)⟩⟩
  show own_Q_lcA0 Z a w_NONE w_DEF w_EMP w_EL w_ELA mir kd ke h0 n0 _ T324.heap _
  rw [eh324]
  exact ⟨rfl, N324, rfl⟩
theorem own_d27_26 : decode jdk_56_method_3_code 26 = .ok (.aload_n 0, 1) := by decide +kernel
theorem own_d27_27 : decode jdk_56_method_3_code 27 = .ok (.checkcast 18, 3) := by decide +kernel
theorem own_d27_30 : decode jdk_56_method_3_code 30 = .ok (.areturn, 1) := by decide +kernel
theorem own_ef_lcL (m : MethodId) (x0 : Addr)  : entryFrame m #[(.ref x0)] 2 = mkF m 0 #[.val (.ref x0), .unset] [] := by first | (simp [entryFrame, mkF, argsToLocals, Value.category]; done) | rfl
def own_Q_lcL (Z : State) (a : Addr) (w_NONE w_DEF w_EMP w_EL w_ELA mir : Addr) (kd ke : ClassId) (h0 : Heap) (n0 : Nat) (v : Option Value) (h : Heap) (L : List Loc) : Prop := v = some (.ref a) ∧ Fr n0 L ∧ h = h0
set_option maxRecDepth 65536 in
set_option maxHeartbeats 40000000 in
theorem own_rm_lcL (l : Launch) (Z : State) (a0 : Array Value) (hw : ∀ d ∈ tables_1, d.before a0 Z = true) (ws : List Jvm.Cond) (a : Addr) (w_NONE w_DEF w_EMP w_EL w_ELA mir : Addr) (kd ke : ClassId) (h0 : Heap) (n0 : Nat) (O0 : Old Z n0 h0) (HS : own_St Z w_NONE w_DEF w_EMP w_EL w_ELA mir kd ke) (E1 : Exa Z h0 a "java/util/ImmutableCollections$List12") (F2 : Fld Z h0 a "java/util/ImmutableCollections$List12" "e1" "Ljava/lang/Object;" (.ref w_EMP)) :
    MetFree l (⟨"java/util/ImmutableCollections", "listCopy", "(Ljava/util/Collection;)Ljava/util/List;"⟩ : MethodName) (head1 (Jvm.Cond.code (⟨"java/util/ImmutableCollections", "listCopy", "(Ljava/util/Collection;)Ljava/util/List;"⟩ : MethodName) jdk_56_method_3_code 2 (some (.object "java/util/List")) :: ws) ({ frames := 0, cells := 0, slots := 0, locals := 0 } : Room)) (fun ar9 U => ar9 = #[(.ref a)] ∧ Z.Warmed39 U.vm ∧ U.heap = h0) (fun _ _ _ _ _ => True) (fun _ U o U' => ∃ v L, o = .returned v ∧ own_Q_lcL Z a w_NONE w_DEF w_EMP w_EL w_ELA mir kd ke h0 n0 v U'.heap L ∧ FrameEnd U o U' L ({ frames := 0, cells := 0, slots := 0, locals := 0 } : Room).cells ({ frames := 0, cells := 0, slots := 0, locals := 0 } : Room).slots) := by
  refine MetFree.of_bodySF (plainFor_of_name own_pn_11) hisR ?_
  intro p e s m args below meth c s₁ Bd hml0 hP hK0
  obtain ⟨rfl, hZ, hh⟩ := hP
  have hx := Bd.exec
  have hby := Bd.bytes
  have hml : c.maxLocals = 2 := hml0
  have hown : s.vm.findClass "java/util/ImmutableCollections" = some m.cls := findClass_of_methodNamed Bd.named
  have hnm := (name_of_methodNamed Bd.named Bd.method).1
  have X0 : Stand p l e ({ frames := 0, cells := 0, slots := 0, locals := 0 } : Room) s m #[(.ref a)] below meth c s₁ [] 0 0 := Stand.of_body Bd
  have e0 : s₁.heap = h0 := by rw [← hh, Bd.state]; rfl
  have N0 := Fr.nil n0
  refine own_open fun K hK => ?_
  refine own_go (B := s₁.setTop (mkF m 0 #[.val (.ref a), .unset] [])) (fun t k => castTop (own_ef_lcL m a) k) ?_
  refine own_go (B := s₁.setTop (mkF m 1 #[.val (.ref a), .unset] [(.ref a)])) (fun t k => XS.aloadN X0.here hx rfl (hb hby own_d27_0) rfl rfl k) ?_
  obtain ⟨T326, X326, e326, st326⟩ := instY X0 hx hZ hown (hw _ (List.mem_of_getElem? (i := 133) rfl)) e0 (Ins.self E1) (g := (mkF m 1 #[.val (.ref a), .unset] [(.ref a)])) rfl rfl (hb hby own_d27_1)
  refine own_go (B := T326.setTop (mkF m 4 #[.val (.ref a), .unset] [(.int (1 : Int32))])) (fun t k => st326 _ k) ?_
  refine own_go (B := T326.setTop (mkF m 26 #[.val (.ref a), .unset] [])) (fun t k => XS.ifYes X326.here hx rfl (pc0 := 4) (pc' := 26) rfl (hb hby own_d27_4) rfl ((if0 _ _).trans (feq (by decide : ¬ ((1 : Int32) = (0 : Int32)))).2) (by decide) (by decide) k) ?_
  refine own_go (B := T326.setTop (mkF m 27 #[.val (.ref a), .unset] [(.ref a)])) (fun t k => XS.aloadN X326.here hx rfl (hb hby own_d27_26) rfl rfl k) ?_
  obtain ⟨T328, X328, e328, st328⟩ := castY X326 hx hZ hown (hw _ (List.mem_of_getElem? (i := 253) rfl)) e326 (Ins.of_exa E1 (hw _ (List.mem_of_getElem? (i := 235) rfl))) (g := (mkF m 27 #[.val (.ref a), .unset] [(.ref a)])) rfl rfl (hb hby own_d27_27)
  refine own_go (B := T328.setTop (mkF m 30 #[.val (.ref a), .unset] [(.ref a)])) (fun t k => st328 _ k) ?_
  obtain ⟨fs, hr, hrun, hended, hW, hsame⟩ := X328.leave (v := some (.ref a)) (fun h => by rw [Bd.returns] at h; cases h)
  refine ⟨_, _, own_retA X328 hx Bd.returns rfl rfl (hb hby own_d27_30) hr, hK _ _ ⟨hrun, hended, _, _, rfl, ?_, ⟨_, rfl⟩, hW, hsame.mono (by decide) (by decide)⟩⟩
  show own_Q_lcL Z a w_NONE w_DEF w_EMP w_EL w_ELA mir kd ke h0 n0 _ T328.heap _
  rw [e328]
  exact ⟨rfl, N0, rfl⟩
theorem own_d27_14 : decode jdk_56_method_3_code 14 = .ok (.aload_n 0, 1) := by decide +kernel
theorem own_d27_15 : decode jdk_56_method_3_code 15 = .ok (.checkcast 12, 3) := by decide +kernel
theorem own_d27_18 : decode jdk_56_method_3_code 18 = .ok (.astore_n 1, 1) := by decide +kernel
theorem own_d27_19 : decode jdk_56_method_3_code 19 = .ok (.aload_n 1, 1) := by decide +kernel
theorem own_d27_20 : decode jdk_56_method_3_code 20 = .ok (.getfield 14, 3) := by decide +kernel
theorem own_d27_23 : decode jdk_56_method_3_code 23 = .ok (.ifCond .ne 8, 3) := by decide +kernel
theorem own_ef_lcN (m : MethodId) (x0 : Addr)  : entryFrame m #[(.ref x0)] 2 = mkF m 0 #[.val (.ref x0), .unset] [] := by first | (simp [entryFrame, mkF, argsToLocals, Value.category]; done) | rfl
def own_Q_lcN (Z : State) (w_NONE w_DEF w_EMP w_EL w_ELA mir : Addr) (kd ke : ClassId) (h0 : Heap) (n0 : Nat) (v : Option Value) (h : Heap) (L : List Loc) : Prop := v = some (.ref w_EL) ∧ Fr n0 L ∧ h = h0
set_option maxRecDepth 65536 in
set_option maxHeartbeats 40000000 in
theorem own_rm_lcN (l : Launch) (Z : State) (a0 : Array Value) (hw : ∀ d ∈ tables_1, d.before a0 Z = true) (ws : List Jvm.Cond) (w_NONE w_DEF w_EMP w_EL w_ELA mir : Addr) (kd ke : ClassId) (h0 : Heap) (n0 : Nat) (O0 : Old Z n0 h0) (HS : own_St Z w_NONE w_DEF w_EMP w_EL w_ELA mir kd ke) :
    MetFree l (⟨"java/util/ImmutableCollections", "listCopy", "(Ljava/util/Collection;)Ljava/util/List;"⟩ : MethodName) (head1 (Jvm.Cond.code (⟨"java/util/ImmutableCollections", "listCopy", "(Ljava/util/Collection;)Ljava/util/List;"⟩ : MethodName) jdk_56_method_3_code 2 (some (.object "java/util/List")) :: ws) ({ frames := 0, cells := 0, slots := 0, locals := 0 } : Room)) (fun ar9 U => ar9 = #[(.ref w_EL)] ∧ Z.Warmed39 U.vm ∧ U.heap = h0) (fun _ _ _ _ _ => True) (fun _ U o U' => ∃ v L, o = .returned v ∧ own_Q_lcN Z w_NONE w_DEF w_EMP w_EL w_ELA mir kd ke h0 n0 v U'.heap L ∧ FrameEnd U o U' L ({ frames := 0, cells := 0, slots := 0, locals := 0 } : Room).cells ({ frames := 0, cells := 0, slots := 0, locals := 0 } : Room).slots) := by
  refine MetFree.of_bodySF (plainFor_of_name own_pn_11) hisR ?_
  intro p e s m args below meth c s₁ Bd hml0 hP hK0
  obtain ⟨rfl, hZ, hh⟩ := hP
  have hx := Bd.exec
  have hby := Bd.bytes
  have hml : c.maxLocals = 2 := hml0
  have hown : s.vm.findClass "java/util/ImmutableCollections" = some m.cls := findClass_of_methodNamed Bd.named
  have hnm := (name_of_methodNamed Bd.named Bd.method).1
  have X0 : Stand p l e ({ frames := 0, cells := 0, slots := 0, locals := 0 } : Room) s m #[(.ref w_EL)] below meth c s₁ [] 0 0 := Stand.of_body Bd
  have e0 : s₁.heap = h0 := by rw [← hh, Bd.state]; rfl
  have N0 := Fr.nil n0
  refine own_open fun K hK => ?_
  refine own_go (B := s₁.setTop (mkF m 0 #[.val (.ref w_EL), .unset] [])) (fun t k => castTop (own_ef_lcN m w_EL) k) ?_
  have ni0 := own_noIns (a0 := a0) (HS.2.2.2.2.2.2.2.1.ext O0.2) (show own_Chain Z a0 ["java/util/ImmutableCollections$ListN", "java/util/ImmutableCollections$AbstractImmutableList", "java/util/ImmutableCollections$AbstractImmutableCollection", "java/util/AbstractCollection", "java/lang/Object"] from ⟨(hw _ (List.mem_of_getElem? (i := 254) rfl)), (hw _ (List.mem_of_getElem? (i := 255) rfl)), (hw _ (List.mem_of_getElem? (i := 256) rfl)), (hw _ (List.mem_of_getElem? (i := 136) rfl)), (hw _ (List.mem_of_getElem? (i := 137) rfl))⟩) (K := "java/util/ImmutableCollections$List12") (by decide) (own_Cls.ofI (hw _ (List.mem_of_getElem? (i := 181) rfl)))
  refine own_go (B := s₁.setTop (mkF m 1 #[.val (.ref w_EL), .unset] [(.ref w_EL)])) (fun t k => XS.aloadN X0.here hx rfl (hb hby own_d27_0) rfl rfl k) ?_
  obtain ⟨T330, X330, e330, st330⟩ := instN X0 hx hZ hown (hw _ (List.mem_of_getElem? (i := 133) rfl)) e0 (by rw [hh]; exact ni0) (by rw [hh]; exact (HS.2.2.2.2.2.2.2.1.ext O0.2)) (g := (mkF m 1 #[.val (.ref w_EL), .unset] [(.ref w_EL)])) rfl rfl (hb hby own_d27_1)
  refine own_go (B := T330.setTop (mkF m 4 #[.val (.ref w_EL), .unset] [(.int (0 : Int32))])) (fun t k => st330 _ k) ?_
  refine own_go (B := T330.setTop (mkF m 7 #[.val (.ref w_EL), .unset] [])) (fun t k => XS.ifNo X330.here hx rfl (hb hby own_d27_4) rfl ((if0 _ _).trans (teq (by decide : (0 : Int32) = (0 : Int32))).2) k) ?_
  refine own_go (B := T330.setTop (mkF m 8 #[.val (.ref w_EL), .unset] [(.ref w_EL)])) (fun t k => XS.aloadN X330.here hx rfl (hb hby own_d27_7) rfl rfl k) ?_
  obtain ⟨T332, X332, e332, st332⟩ := instY X330 hx hZ hown (hw _ (List.mem_of_getElem? (i := 138) rfl)) e330 (Ins.self (HS.2.2.2.2.2.2.2.1.ext O0.2)) (g := (mkF m 8 #[.val (.ref w_EL), .unset] [(.ref w_EL)])) rfl rfl (hb hby own_d27_8)
  refine own_go (B := T332.setTop (mkF m 11 #[.val (.ref w_EL), .unset] [(.int (1 : Int32))])) (fun t k => st332 _ k) ?_
  refine own_go (B := T332.setTop (mkF m 14 #[.val (.ref w_EL), .unset] [])) (fun t k => XS.ifNo X332.here hx rfl (hb hby own_d27_11) rfl ((if0 _ _).trans (feq (by decide : ¬ ((1 : Int32) = (0 : Int32)))).1) k) ?_
  refine own_go (B := T332.setTop (mkF m 15 #[.val (.ref w_EL), .unset] [(.ref w_EL)])) (fun t k => XS.aloadN X332.here hx rfl (hb hby own_d27_14) rfl rfl k) ?_
  obtain ⟨T334, X334, e334, st334⟩ := castY X332 hx hZ hown (hw _ (List.mem_of_getElem? (i := 138) rfl)) e332 (Ins.self (HS.2.2.2.2.2.2.2.1.ext O0.2)) (g := (mkF m 15 #[.val (.ref w_EL), .unset] [(.ref w_EL)])) rfl rfl (hb hby own_d27_15)
  refine own_go (B := T334.setTop (mkF m 18 #[.val (.ref w_EL), .unset] [(.ref w_EL)])) (fun t k => st334 _ k) ?_
  refine own_go (B := T334.setTop (mkF m 19 #[.val (.ref w_EL), .val (.ref w_EL)] [])) (fun t k => XS.astoreN X334.here hx rfl (hb hby own_d27_18) rfl rfl (l' := #[.val (.ref w_EL), .val (.ref w_EL)]) rfl k) ?_
  refine own_go (B := T334.setTop (mkF m 20 #[.val (.ref w_EL), .val (.ref w_EL)] [(.ref w_EL)])) (fun t k => XS.aloadN X334.here hx rfl (hb hby own_d27_19) rfl rfl k) ?_
  obtain ⟨T335, X335, e335, st335⟩ := getF X334 hx hZ hown (Or.inr (hw _ (List.mem_of_getElem? (i := 258) rfl))) Via.refl e334 (HS.2.2.2.2.2.2.2.2.2.2.1.ext O0.2) (g := (mkF m 20 #[.val (.ref w_EL), .val (.ref w_EL)] [(.ref w_EL)])) rfl rfl (hb hby own_d27_20)
  refine own_go (B := T335.setTop (mkF m 23 #[.val (.ref w_EL), .val (.ref w_EL)] [(.int (0 : Int32))])) (fun t k => st335 _ k) ?_
  refine own_go (B := T335.setTop (mkF m 26 #[.val (.ref w_EL), .val (.ref w_EL)] [])) (fun t k => XS.ifNo X335.here hx rfl (hb hby own_d27_23) rfl ((if0 _ _).trans (teq (by decide : (0 : Int32) = (0 : Int32))).2) k) ?_
  refine own_go (B := T335.setTop (mkF m 27 #[.val (.ref w_EL), .val (.ref w_EL)] [(.ref w_EL)])) (fun t k => XS.aloadN X335.here hx rfl (hb hby own_d27_26) rfl rfl k) ?_
  obtain ⟨T337, X337, e337, st337⟩ := castY X335 hx hZ hown (hw _ (List.mem_of_getElem? (i := 253) rfl)) e335 (Ins.of_exa (HS.2.2.2.2.2.2.2.1.ext O0.2) (hw _ (List.mem_of_getElem? (i := 248) rfl))) (g := (mkF m 27 #[.val (.ref w_EL), .val (.ref w_EL)] [(.ref w_EL)])) rfl rfl (hb hby own_d27_27)
  refine own_go (B := T337.setTop (mkF m 30 #[.val (.ref w_EL), .val (.ref w_EL)] [(.ref w_EL)])) (fun t k => st337 _ k) ?_
  obtain ⟨fs, hr, hrun, hended, hW, hsame⟩ := X337.leave (v := some (.ref w_EL)) (fun h => by rw [Bd.returns] at h; cases h)
  refine ⟨_, _, own_retA X337 hx Bd.returns rfl rfl (hb hby own_d27_30) hr, hK _ _ ⟨hrun, hended, _, _, rfl, ?_, ⟨_, rfl⟩, hW, hsame.mono (by decide) (by decide)⟩⟩
  show own_Q_lcN Z w_NONE w_DEF w_EMP w_EL w_ELA mir kd ke h0 n0 _ T337.heap _
  rw [e337]
  exact ⟨rfl, N0, rfl⟩
theorem own_d33_0 : decode jdk_40_method_48_code 0 = .ok (.aload_n 0, 1) := by decide +kernel
theorem own_d33_1 : decode jdk_40_method_48_code 1 = .ok (.invokestatic 112, 3) := by decide +kernel
theorem own_pd_17 : parseMethodDescriptor "(Ljava/util/Collection;)Ljava/util/List;" = some ⟨[(.object "java/util/Collection")], some (.object "java/util/List")⟩ := by decide +kernel
theorem own_d33_4 : decode jdk_40_method_48_code 4 = .ok (.areturn, 1) := by decide +kernel
theorem own_ef_coA1 (m : MethodId) (x0 : Addr)  : entryFrame m #[(.ref x0)] 1 = mkF m 0 #[.val (.ref x0)] [] := by first | (simp [entryFrame, mkF, argsToLocals, Value.category]; done) | rfl
def own_Q_coA1 (Z : State) (a b st : Addr) (kb : ClassId) (w_NONE w_DEF w_EMP w_EL w_ELA mir : Addr) (kd ke : ClassId) (h0 : Heap) (n0 : Nat) (v : Option Value) (h : Heap) (L : List Loc) : Prop := ∃ r : Addr, v = some (.ref r) ∧ Fr n0 L ∧ Ext h0 h ∧ h0.size ≤ r ∧ Exa Z h r "java/util/ImmutableCollections$List12" ∧ Fld Z h r "java/util/ImmutableCollections$List12" "e1" "Ljava/lang/Object;" (.ref w_EMP)
set_option maxRecDepth 65536 in
set_option maxHeartbeats 40000000 in
theorem own_rm_coA1 (l : Launch) (Z : State) (a0 : Array Value) (hw : ∀ d ∈ tables_1, d.before a0 Z = true) (ws : List Jvm.Cond) (a b st : Addr) (kb : ClassId) (w_NONE w_DEF w_EMP w_EL w_ELA mir : Addr) (kd ke : ClassId) (h0 : Heap) (n0 : Nat) (O0 : Old Z n0 h0) (HS : own_St Z w_NONE w_DEF w_EMP w_EL w_ELA mir kd ke) (E1 : Exa Z h0 a "java/util/ArrayList") (F2 : Fld Z h0 a "java/util/AbstractList" "modCount" "I" (.int (1 : Int32))) (F3 : Fld Z h0 a "java/util/ArrayList" "elementData" "[Ljava/lang/Object;" (.ref b)) (F4 : Fld Z h0 a "java/util/ArrayList" "size" "I" (.int (1 : Int32))) (E5 : Exa Z h0 b "[Ljava/lang/Object;") (A6 : Arv Z h0 b kb (.object "java/lang/Object") (10 : Int32) [(.ref st), .null, .null, .null, .null, .null, .null, .null, .null, .null] .null) (E7 : Exa Z h0 st "com/example/invariant/invariant/State") :
    MetFree l (⟨"java/util/List", "copyOf", "(Ljava/util/Collection;)Ljava/util/List;"⟩ : MethodName) (head1 (Jvm.Cond.code (⟨"java/util/List", "copyOf", "(Ljava/util/Collection;)Ljava/util/List;"⟩ : MethodName) jdk_40_method_48_code 1 (some (.object "java/util/List")) :: ws) ({ frames := 7, cells := 2, slots := 3, locals := 113 } : Room)) (fun ar9 U => ar9 = #[(.ref a)] ∧ Z.Warmed39 U.vm ∧ U.heap = h0) (fun _ _ _ _ _ => True) (fun _ U o U' => ∃ v L, o = .returned v ∧ own_Q_coA1 Z a b st kb w_NONE w_DEF w_EMP w_EL w_ELA mir kd ke h0 n0 v U'.heap L ∧ FrameEnd U o U' L ({ frames := 7, cells := 2, slots := 3, locals := 113 } : Room).cells ({ frames := 7, cells := 2, slots := 3, locals := 113 } : Room).slots) := by
  refine MetFree.of_bodySF (plainFor_of_name own_pn_10) hisR ?_
  intro p e s m args below meth c s₁ Bd hml0 hP hK0
  obtain ⟨rfl, hZ, hh⟩ := hP
  have hx := Bd.exec
  have hby := Bd.bytes
  have hml : c.maxLocals = 1 := hml0
  have hown : s.vm.findClass "java/util/List" = some m.cls := findClass_of_methodNamed Bd.named
  have hnm := (name_of_methodNamed Bd.named Bd.method).1
  have X0 : Stand p l e ({ frames := 7, cells := 2, slots := 3, locals := 113 } : Room) s m #[(.ref a)] below meth c s₁ [] 0 0 := Stand.of_body Bd
  have e0 : s₁.heap = h0 := by rw [← hh, Bd.state]; rfl
  have N0 := Fr.nil n0
  have K0 := Keep.refl h0 []
  refine own_open fun K hK => ?_
  refine own_go (B := s₁.setTop (mkF m 0 #[.val (.ref a)] [])) (fun t k => castTop (own_ef_coA1 m a) k) ?_
  refine own_go (B := s₁.setTop (mkF m 1 #[.val (.ref a)] [(.ref a)])) (fun t k => XS.aloadN X0.here hx rfl (hb hby own_d33_0) rfl rfl k) ?_
  have lt_a_339 := E1.lt
  have lt_b_339 := E5.lt
  have lt_st_339 := E7.lt
  obtain ⟨_, _, ⟨T340, L340, k340, n340⟩, -, X340, ⟨Lc340, hQ340, l340, y340, z340⟩, st340⟩ := Jvm.LawKit.callS X0 hx (y := (⟨"java/util/ImmutableCollections", "listCopy", "(Ljava/util/Collection;)Ljava/util/List;"⟩ : MethodName)) hown (mvT hZ (hw _ (List.mem_of_getElem? (i := 129) rfl))) (mvT hZ (hw _ (List.mem_of_getElem? (i := 130) rfl))) (mvT hZ (hw _ (List.mem_of_getElem? (i := 131) rfl))) (mvT hZ (hw _ (List.mem_of_getElem? (i := 132) rfl))) (by decide) (backOf (W := 0) (own_rm_lcA1 l Z a0 hw [] a b st kb w_NONE w_DEF w_EMP w_EL w_ELA mir kd ke h0 n0 O0 HS E1 F2 F3 F4 E5 A6 E7) hZ (hw _ (List.mem_of_getElem? (i := 132) rfl)) (hw _ (List.mem_of_getElem? (i := 131) rfl)) (by decide) (by decide)) (g := (mkF m 1 #[.val (.ref a)] [(.ref a)])) rfl (by rw [hml]; rfl) (argsL := [(.ref a)]) (rest := []) (lenOf own_pd_17 rfl) rfl (by show 2 * 0 + _ ≤ _; exact Nat.le_of_eq rfl) (hb hby own_d33_1) (fun _ _ => ⟨rfl, e0, (by decide : 0 + 2 ≤ _), (by decide : 0 + 3 ≤ _)⟩)
  dsimp only [Pt.U, Pt.locs, Pt.cells, Pt.slots] at X340 l340 y340 z340 st340 hQ340
  subst l340 y340 z340
  obtain ⟨r_340, rfl, N340q, Kc340, Q340_0, Q340_1, Q340_2⟩ := hQ340
  have E340 := Kc340
  have O340 := O0.ext E340
  have K340 := K0.ext E340
  have N340 := Fr.app N0 N340q
  refine own_go (B := T340.setTop (mkF m 4 #[.val (.ref a)] [(.ref r_340)])) (fun t k => st340 _ k) ?_
  have g_r_340 : n0 ≤ r_340 := Nat.le_trans (own_n0 O0) Q340_0
  have sz_r_340 : h0.size ≤ r_340 := Nat.le_trans K0.1 Q340_0
  obtain ⟨fs, hr, hrun, hended, hW, hsame⟩ := X340.leave (v := some (.ref r_340)) (fun h => by rw [Bd.returns] at h; cases h)
  have Ex342 : Ext h0 T340.heap := ⟨K340.1, fun x c q => K340.2.1 x c q nin0⟩
  refine ⟨_, _, own_retA X340 hx Bd.returns rfl rfl (hb hby own_d33_4) hr, hK _ _ ⟨hrun, hended, _, _, rfl, ?_, ⟨_, rfl⟩, hW, hsame.mono (by decide) (by decide)⟩⟩
  show own_Q_coA1 Z a b st kb w_NONE w_DEF w_EMP w_EL w_ELA mir kd ke h0 n0 _ T340.heap _
  exact ⟨r_340, rfl, N340, Ex342, sz_r_340, Q340_1, Q340_2⟩
theorem own_ef_coA0 (m : MethodId) (x0 : Addr)  : entryFrame m #[(.ref x0)] 1 = mkF m 0 #[.val (.ref x0)] [] := by first | (simp [entryFrame, mkF, argsToLocals, Value.category]; done) | rfl
def own_Q_coA0 (Z : State) (a : Addr) (w_NONE w_DEF w_EMP w_EL w_ELA mir : Addr) (kd ke : ClassId) (h0 : Heap) (n0 : Nat) (v : Option Value) (h : Heap) (L : List Loc) : Prop := v = some (.ref w_EL) ∧ Fr n0 L ∧ h = h0
set_option maxRecDepth 65536 in
set_option maxHeartbeats 40000000 in
theorem own_rm_coA0 (l : Launch) (Z : State) (a0 : Array Value) (hw : ∀ d ∈ tables_1, d.before a0 Z = true) (ws : List Jvm.Cond) (a : Addr) (w_NONE w_DEF w_EMP w_EL w_ELA mir : Addr) (kd ke : ClassId) (h0 : Heap) (n0 : Nat) (O0 : Old Z n0 h0) (HS : own_St Z w_NONE w_DEF w_EMP w_EL w_ELA mir kd ke) (E1 : Exa Z h0 a "java/util/ArrayList") (F2 : Fld Z h0 a "java/util/AbstractList" "modCount" "I" (.int (0 : Int32))) (F3 : Fld Z h0 a "java/util/ArrayList" "elementData" "[Ljava/lang/Object;" (.ref w_DEF)) (F4 : Fld Z h0 a "java/util/ArrayList" "size" "I" (.int (0 : Int32))) :
    MetFree l (⟨"java/util/List", "copyOf", "(Ljava/util/Collection;)Ljava/util/List;"⟩ : MethodName) (head1 (Jvm.Cond.code (⟨"java/util/List", "copyOf", "(Ljava/util/Collection;)Ljava/util/List;"⟩ : MethodName) jdk_40_method_48_code 1 (some (.object "java/util/List")) :: ws) ({ frames := 2, cells := 0, slots := 0, locals := 25 } : Room)) (fun ar9 U => ar9 = #[(.ref a)] ∧ Z.Warmed39 U.vm ∧ U.heap = h0) (fun _ _ _ _ _ => True) (fun _ U o U' => ∃ v L, o = .returned v ∧ own_Q_coA0 Z a w_NONE w_DEF w_EMP w_EL w_ELA mir kd ke h0 n0 v U'.heap L ∧ FrameEnd U o U' L ({ frames := 2, cells := 0, slots := 0, locals := 25 } : Room).cells ({ frames := 2, cells := 0, slots := 0, locals := 25 } : Room).slots) := by
  refine MetFree.of_bodySF (plainFor_of_name own_pn_10) hisR ?_
  intro p e s m args below meth c s₁ Bd hml0 hP hK0
  obtain ⟨rfl, hZ, hh⟩ := hP
  have hx := Bd.exec
  have hby := Bd.bytes
  have hml : c.maxLocals = 1 := hml0
  have hown : s.vm.findClass "java/util/List" = some m.cls := findClass_of_methodNamed Bd.named
  have hnm := (name_of_methodNamed Bd.named Bd.method).1
  have X0 : Stand p l e ({ frames := 2, cells := 0, slots := 0, locals := 25 } : Room) s m #[(.ref a)] below meth c s₁ [] 0 0 := Stand.of_body Bd
  have e0 : s₁.heap = h0 := by rw [← hh, Bd.state]; rfl
  have N0 := Fr.nil n0
  refine own_open fun K hK => ?_
  refine own_go (B := s₁.setTop (mkF m 0 #[.val (.ref a)] [])) (fun t k => castTop (own_ef_coA0 m a) k) ?_
  refine own_go (B := s₁.setTop (mkF m 1 #[.val (.ref a)] [(.ref a)])) (fun t k => XS.aloadN X0.here hx rfl (hb hby own_d33_0) rfl rfl k) ?_
  obtain ⟨_, _, ⟨T343, L343, k343, n343⟩, -, X343, ⟨Lc343, hQ343, l343, y343, z343⟩, st343⟩ := Jvm.LawKit.callS X0 hx (y := (⟨"java/util/ImmutableCollections", "listCopy", "(Ljava/util/Collection;)Ljava/util/List;"⟩ : MethodName)) hown (mvT hZ (hw _ (List.mem_of_getElem? (i := 129) rfl))) (mvT hZ (hw _ (List.mem_of_getElem? (i := 130) rfl))) (mvT hZ (hw _ (List.mem_of_getElem? (i := 131) rfl))) (mvT hZ (hw _ (List.mem_of_getElem? (i := 132) rfl))) (by decide) (backOf (W := 0) (own_rm_lcA0 l Z a0 hw [] a w_NONE w_DEF w_EMP w_EL w_ELA mir kd ke h0 n0 O0 HS E1 F2 F3 F4) hZ (hw _ (List.mem_of_getElem? (i := 132) rfl)) (hw _ (List.mem_of_getElem? (i := 131) rfl)) (by decide) (by decide)) (g := (mkF m 1 #[.val (.ref a)] [(.ref a)])) rfl (by rw [hml]; rfl) (argsL := [(.ref a)]) (rest := []) (lenOf own_pd_17 rfl) rfl (by show 2 * 0 + _ ≤ _; exact Nat.le_of_eq rfl) (hb hby own_d33_1) (fun _ _ => ⟨rfl, e0, (by decide : 0 + 0 ≤ _), (by decide : 0 + 0 ≤ _)⟩)
  dsimp only [Pt.U, Pt.locs, Pt.cells, Pt.slots] at X343 l343 y343 z343 st343 hQ343
  subst l343 y343 z343
  obtain ⟨rfl, N343q, eh343⟩ := hQ343
  have N343 := Fr.app N0 N343q
  refine own_go (B := T343.setTop (mkF m 4 #[.val (.ref a)] [(.ref w_EL)])) (fun t k => st343 _ k) ?_
  obtain ⟨fs, hr, hrun, hended, hW, hsame⟩ := X343.leave (v := some (.ref w_EL)) (fun h => by rw [Bd.returns] at h; cases h)
  refine ⟨_, _, own_retA X343 hx Bd.returns rfl rfl (hb hby own_d33_4) hr, hK _ _ ⟨hrun, hended, _, _, rfl, ?_, ⟨_, rfl⟩, hW, hsame.mono (by decide) (by decide)⟩⟩
  show own_Q_coA0 Z a w_NONE w_DEF w_EMP w_EL w_ELA mir kd ke h0 n0 _ T343.heap _
  rw [eh343]
  exact ⟨rfl, N343, rfl⟩
theorem own_ef_coL (m : MethodId) (x0 : Addr)  : entryFrame m #[(.ref x0)] 1 = mkF m 0 #[.val (.ref x0)] [] := by first | (simp [entryFrame, mkF, argsToLocals, Value.category]; done) | rfl
def own_Q_coL (Z : State) (a : Addr) (w_NONE w_DEF w_EMP w_EL w_ELA mir : Addr) (kd ke : ClassId) (h0 : Heap) (n0 : Nat) (v : Option Value) (h : Heap) (L : List Loc) : Prop := v = some (.ref a) ∧ Fr n0 L ∧ h = h0
set_option maxRecDepth 65536 in
set_option maxHeartbeats 40000000 in
theorem own_rm_coL (l : Launch) (Z : State) (a0 : Array Value) (hw : ∀ d ∈ tables_1, d.before a0 Z = true) (ws : List Jvm.Cond) (a : Addr) (w_NONE w_DEF w_EMP w_EL w_ELA mir : Addr) (kd ke : ClassId) (h0 : Heap) (n0 : Nat) (O0 : Old Z n0 h0) (HS : own_St Z w_NONE w_DEF w_EMP w_EL w_ELA mir kd ke) (E1 : Exa Z h0 a "java/util/ImmutableCollections$List12") (F2 : Fld Z h0 a "java/util/ImmutableCollections$List12" "e1" "Ljava/lang/Object;" (.ref w_EMP)) :
    MetFree l (⟨"java/util/List", "copyOf", "(Ljava/util/Collection;)Ljava/util/List;"⟩ : MethodName) (head1 (Jvm.Cond.code (⟨"java/util/List", "copyOf", "(Ljava/util/Collection;)Ljava/util/List;"⟩ : MethodName) jdk_40_method_48_code 1 (some (.object "java/util/List")) :: ws) ({ frames := 1, cells := 0, slots := 0, locals := 13 } : Room)) (fun ar9 U => ar9 = #[(.ref a)] ∧ Z.Warmed39 U.vm ∧ U.heap = h0) (fun _ _ _ _ _ => True) (fun _ U o U' => ∃ v L, o = .returned v ∧ own_Q_coL Z a w_NONE w_DEF w_EMP w_EL w_ELA mir kd ke h0 n0 v U'.heap L ∧ FrameEnd U o U' L ({ frames := 1, cells := 0, slots := 0, locals := 13 } : Room).cells ({ frames := 1, cells := 0, slots := 0, locals := 13 } : Room).slots) := by
  refine MetFree.of_bodySF (plainFor_of_name own_pn_10) hisR ?_
  intro p e s m args below meth c s₁ Bd hml0 hP hK0
  obtain ⟨rfl, hZ, hh⟩ := hP
  have hx := Bd.exec
  have hby := Bd.bytes
  have hml : c.maxLocals = 1 := hml0
  have hown : s.vm.findClass "java/util/List" = some m.cls := findClass_of_methodNamed Bd.named
  have hnm := (name_of_methodNamed Bd.named Bd.method).1
  have X0 : Stand p l e ({ frames := 1, cells := 0, slots := 0, locals := 13 } : Room) s m #[(.ref a)] below meth c s₁ [] 0 0 := Stand.of_body Bd
  have e0 : s₁.heap = h0 := by rw [← hh, Bd.state]; rfl
  have N0 := Fr.nil n0
  refine own_open fun K hK => ?_
  refine own_go (B := s₁.setTop (mkF m 0 #[.val (.ref a)] [])) (fun t k => castTop (own_ef_coL m a) k) ?_
  refine own_go (B := s₁.setTop (mkF m 1 #[.val (.ref a)] [(.ref a)])) (fun t k => XS.aloadN X0.here hx rfl (hb hby own_d33_0) rfl rfl k) ?_
  obtain ⟨_, _, ⟨T345, L345, k345, n345⟩, -, X345, ⟨Lc345, hQ345, l345, y345, z345⟩, st345⟩ := Jvm.LawKit.callS X0 hx (y := (⟨"java/util/ImmutableCollections", "listCopy", "(Ljava/util/Collection;)Ljava/util/List;"⟩ : MethodName)) hown (mvT hZ (hw _ (List.mem_of_getElem? (i := 129) rfl))) (mvT hZ (hw _ (List.mem_of_getElem? (i := 130) rfl))) (mvT hZ (hw _ (List.mem_of_getElem? (i := 131) rfl))) (mvT hZ (hw _ (List.mem_of_getElem? (i := 132) rfl))) (by decide) (backOf (W := 0) (own_rm_lcL l Z a0 hw [] a w_NONE w_DEF w_EMP w_EL w_ELA mir kd ke h0 n0 O0 HS E1 F2) hZ (hw _ (List.mem_of_getElem? (i := 132) rfl)) (hw _ (List.mem_of_getElem? (i := 131) rfl)) (by decide) (by decide)) (g := (mkF m 1 #[.val (.ref a)] [(.ref a)])) rfl (by rw [hml]; rfl) (argsL := [(.ref a)]) (rest := []) (lenOf own_pd_17 rfl) rfl (by show 2 * 0 + _ ≤ _; exact Nat.le_of_eq rfl) (hb hby own_d33_1) (fun _ _ => ⟨rfl, e0, (by decide : 0 + 0 ≤ _), (by decide : 0 + 0 ≤ _)⟩)
  dsimp only [Pt.U, Pt.locs, Pt.cells, Pt.slots] at X345 l345 y345 z345 st345 hQ345
  subst l345 y345 z345
  obtain ⟨rfl, N345q, eh345⟩ := hQ345
  have N345 := Fr.app N0 N345q
  refine own_go (B := T345.setTop (mkF m 4 #[.val (.ref a)] [(.ref a)])) (fun t k => st345 _ k) ?_
  obtain ⟨fs, hr, hrun, hended, hW, hsame⟩ := X345.leave (v := some (.ref a)) (fun h => by rw [Bd.returns] at h; cases h)
  refine ⟨_, _, own_retA X345 hx Bd.returns rfl rfl (hb hby own_d33_4) hr, hK _ _ ⟨hrun, hended, _, _, rfl, ?_, ⟨_, rfl⟩, hW, hsame.mono (by decide) (by decide)⟩⟩
  show own_Q_coL Z a w_NONE w_DEF w_EMP w_EL w_ELA mir kd ke h0 n0 _ T345.heap _
  rw [eh345]
  exact ⟨rfl, N345, rfl⟩
theorem own_ef_coN (m : MethodId) (x0 : Addr)  : entryFrame m #[(.ref x0)] 1 = mkF m 0 #[.val (.ref x0)] [] := by first | (simp [entryFrame, mkF, argsToLocals, Value.category]; done) | rfl
def own_Q_coN (Z : State) (w_NONE w_DEF w_EMP w_EL w_ELA mir : Addr) (kd ke : ClassId) (h0 : Heap) (n0 : Nat) (v : Option Value) (h : Heap) (L : List Loc) : Prop := v = some (.ref w_EL) ∧ Fr n0 L ∧ h = h0
set_option maxRecDepth 65536 in
set_option maxHeartbeats 40000000 in
theorem own_rm_coN (l : Launch) (Z : State) (a0 : Array Value) (hw : ∀ d ∈ tables_1, d.before a0 Z = true) (ws : List Jvm.Cond) (w_NONE w_DEF w_EMP w_EL w_ELA mir : Addr) (kd ke : ClassId) (h0 : Heap) (n0 : Nat) (O0 : Old Z n0 h0) (HS : own_St Z w_NONE w_DEF w_EMP w_EL w_ELA mir kd ke) :
    MetFree l (⟨"java/util/List", "copyOf", "(Ljava/util/Collection;)Ljava/util/List;"⟩ : MethodName) (head1 (Jvm.Cond.code (⟨"java/util/List", "copyOf", "(Ljava/util/Collection;)Ljava/util/List;"⟩ : MethodName) jdk_40_method_48_code 1 (some (.object "java/util/List")) :: ws) ({ frames := 1, cells := 0, slots := 0, locals := 13 } : Room)) (fun ar9 U => ar9 = #[(.ref w_EL)] ∧ Z.Warmed39 U.vm ∧ U.heap = h0) (fun _ _ _ _ _ => True) (fun _ U o U' => ∃ v L, o = .returned v ∧ own_Q_coN Z w_NONE w_DEF w_EMP w_EL w_ELA mir kd ke h0 n0 v U'.heap L ∧ FrameEnd U o U' L ({ frames := 1, cells := 0, slots := 0, locals := 13 } : Room).cells ({ frames := 1, cells := 0, slots := 0, locals := 13 } : Room).slots) := by
  refine MetFree.of_bodySF (plainFor_of_name own_pn_10) hisR ?_
  intro p e s m args below meth c s₁ Bd hml0 hP hK0
  obtain ⟨rfl, hZ, hh⟩ := hP
  have hx := Bd.exec
  have hby := Bd.bytes
  have hml : c.maxLocals = 1 := hml0
  have hown : s.vm.findClass "java/util/List" = some m.cls := findClass_of_methodNamed Bd.named
  have hnm := (name_of_methodNamed Bd.named Bd.method).1
  have X0 : Stand p l e ({ frames := 1, cells := 0, slots := 0, locals := 13 } : Room) s m #[(.ref w_EL)] below meth c s₁ [] 0 0 := Stand.of_body Bd
  have e0 : s₁.heap = h0 := by rw [← hh, Bd.state]; rfl
  have N0 := Fr.nil n0
  refine own_open fun K hK => ?_
  refine own_go (B := s₁.setTop (mkF m 0 #[.val (.ref w_EL)] [])) (fun t k => castTop (own_ef_coN m w_EL) k) ?_
  refine own_go (B := s₁.setTop (mkF m 1 #[.val (.ref w_EL)] [(.ref w_EL)])) (fun t k => XS.aloadN X0.here hx rfl (hb hby own_d33_0) rfl rfl k) ?_
  obtain ⟨_, _, ⟨T347, L347, k347, n347⟩, -, X347, ⟨Lc347, hQ347, l347, y347, z347⟩, st347⟩ := Jvm.LawKit.callS X0 hx (y := (⟨"java/util/ImmutableCollections", "listCopy", "(Ljava/util/Collection;)Ljava/util/List;"⟩ : MethodName)) hown (mvT hZ (hw _ (List.mem_of_getElem? (i := 129) rfl))) (mvT hZ (hw _ (List.mem_of_getElem? (i := 130) rfl))) (mvT hZ (hw _ (List.mem_of_getElem? (i := 131) rfl))) (mvT hZ (hw _ (List.mem_of_getElem? (i := 132) rfl))) (by decide) (backOf (W := 0) (own_rm_lcN l Z a0 hw [] w_NONE w_DEF w_EMP w_EL w_ELA mir kd ke h0 n0 O0 HS) hZ (hw _ (List.mem_of_getElem? (i := 132) rfl)) (hw _ (List.mem_of_getElem? (i := 131) rfl)) (by decide) (by decide)) (g := (mkF m 1 #[.val (.ref w_EL)] [(.ref w_EL)])) rfl (by rw [hml]; rfl) (argsL := [(.ref w_EL)]) (rest := []) (lenOf own_pd_17 rfl) rfl (by show 2 * 0 + _ ≤ _; exact Nat.le_of_eq rfl) (hb hby own_d33_1) (fun _ _ => ⟨rfl, e0, (by decide : 0 + 0 ≤ _), (by decide : 0 + 0 ≤ _)⟩)
  dsimp only [Pt.U, Pt.locs, Pt.cells, Pt.slots] at X347 l347 y347 z347 st347 hQ347
  subst l347 y347 z347
  obtain ⟨rfl, N347q, eh347⟩ := hQ347
  have N347 := Fr.app N0 N347q
  refine own_go (B := T347.setTop (mkF m 4 #[.val (.ref w_EL)] [(.ref w_EL)])) (fun t k => st347 _ k) ?_
  obtain ⟨fs, hr, hrun, hended, hW, hsame⟩ := X347.leave (v := some (.ref w_EL)) (fun h => by rw [Bd.returns] at h; cases h)
  refine ⟨_, _, own_retA X347 hx Bd.returns rfl rfl (hb hby own_d33_4) hr, hK _ _ ⟨hrun, hended, _, _, rfl, ?_, ⟨_, rfl⟩, hW, hsame.mono (by decide) (by decide)⟩⟩
  show own_Q_coN Z w_NONE w_DEF w_EMP w_EL w_ELA mir kd ke h0 n0 _ T347.heap _
  rw [eh347]
  exact ⟨rfl, N347, rfl⟩
theorem own_d31_0 : decode jdk_44_method_3_code 0 = .ok (.aload_n 0, 1) := by decide +kernel
theorem own_d31_1 : decode jdk_44_method_3_code 1 = .ok (.getfield 24, 3) := by decide +kernel
theorem own_d31_4 : decode jdk_44_method_3_code 4 = .ok (.getstatic 19, 3) := by decide +kernel
theorem own_d31_7 : decode jdk_44_method_3_code 7 = .ok (.if_acmp .eq 7, 3) := by decide +kernel
theorem own_d31_14 : decode jdk_44_method_3_code 14 = .ok (.iconst 1, 1) := by decide +kernel
theorem own_d31_15 : decode jdk_44_method_3_code 15 = .ok (.ireturn, 1) := by decide +kernel
theorem own_ef_l12size (m : MethodId) (x0 : Addr)  : entryFrame m #[(.ref x0)] 1 = mkF m 0 #[.val (.ref x0)] [] := by first | (simp [entryFrame, mkF, argsToLocals, Value.category]; done) | rfl
def own_Q_l12size (Z : State) (a : Addr) (w_NONE w_DEF w_EMP w_EL w_ELA mir : Addr) (kd ke : ClassId) (h0 : Heap) (n0 : Nat) (v : Option Value) (h : Heap) (L : List Loc) : Prop := v = some (.int (1 : Int32)) ∧ Fr n0 L ∧ h = h0
set_option maxRecDepth 65536 in
set_option maxHeartbeats 40000000 in
theorem own_rm_l12size (l : Launch) (Z : State) (a0 : Array Value) (hw : ∀ d ∈ tables_1, d.before a0 Z = true) (ws : List Jvm.Cond) (a : Addr) (w_NONE w_DEF w_EMP w_EL w_ELA mir : Addr) (kd ke : ClassId) (h0 : Heap) (n0 : Nat) (O0 : Old Z n0 h0) (HS : own_St Z w_NONE w_DEF w_EMP w_EL w_ELA mir kd ke) (E1 : Exa Z h0 a "java/util/ImmutableCollections$List12") (F2 : Fld Z h0 a "java/util/ImmutableCollections$List12" "e1" "Ljava/lang/Object;" (.ref w_EMP)) :
    MetFree l (⟨"java/util/ImmutableCollections$List12", "size", "()I"⟩ : MethodName) (head1 (Jvm.Cond.code (⟨"java/util/ImmutableCollections$List12", "size", "()I"⟩ : MethodName) jdk_44_method_3_code 1 (some .int) :: ws) ({ frames := 0, cells := 0, slots := 0, locals := 0 } : Room)) (fun ar9 U => ar9 = #[(.ref a)] ∧ Z.Warmed39 U.vm ∧ U.heap = h0) (fun _ _ _ _ _ => True) (fun _ U o U' => ∃ v L, o = .returned v ∧ own_Q_l12size Z a w_NONE w_DEF w_EMP w_EL w_ELA mir kd ke h0 n0 v U'.heap L ∧ FrameEnd U o U' L ({ frames := 0, cells := 0, slots := 0, locals := 0 } : Room).cells ({ frames := 0, cells := 0, slots := 0, locals := 0 } : Room).slots) := by
  refine MetFree.of_bodySF (plainFor_of_name own_pn_9) hisR ?_
  intro p e s m args below meth c s₁ Bd hml0 hP hK0
  obtain ⟨rfl, hZ, hh⟩ := hP
  have hx := Bd.exec
  have hby := Bd.bytes
  have hml : c.maxLocals = 1 := hml0
  have hown : s.vm.findClass "java/util/ImmutableCollections$List12" = some m.cls := findClass_of_methodNamed Bd.named
  have hnm := (name_of_methodNamed Bd.named Bd.method).1
  have X0 : Stand p l e ({ frames := 0, cells := 0, slots := 0, locals := 0 } : Room) s m #[(.ref a)] below meth c s₁ [] 0 0 := Stand.of_body Bd
  have e0 : s₁.heap = h0 := by rw [← hh, Bd.state]; rfl
  have N0 := Fr.nil n0
  refine own_open fun K hK => ?_
  refine own_go (B := s₁.setTop (mkF m 0 #[.val (.ref a)] [])) (fun t k => castTop (own_ef_l12size m a) k) ?_
  refine own_go (B := s₁.setTop (mkF m 1 #[.val (.ref a)] [(.ref a)])) (fun t k => XS.aloadN X0.here hx rfl (hb hby own_d31_0) rfl rfl k) ?_
  obtain ⟨T349, X349, e349, st349⟩ := getF X0 hx hZ hown (host := "") (Or.inl (hw _ (List.mem_of_getElem? (i := 207) rfl))) Via.refl e0 F2 (g := (mkF m 1 #[.val (.ref a)] [(.ref a)])) rfl rfl (hb hby own_d31_1)
  refine own_go (B := T349.setTop (mkF m 4 #[.val (.ref a)] [(.ref w_EMP)])) (fun t k => st349 _ k) ?_
  obtain ⟨T350, X350, e350, st350⟩ := getS2 X349 hx hZ hown (Or.inr (hw _ (List.mem_of_getElem? (i := 206) rfl))) Via.refl e349 (HS.2.2.2.2.2.1.ext O0.2) (g := (mkF m 4 #[.val (.ref a)] [(.ref w_EMP)])) rfl (hb hby own_d31_4)
  refine own_go (B := T350.setTop (mkF m 7 #[.val (.ref a)] [(.ref w_EMP), (.ref w_EMP)])) (fun t k => st350 _ k) ?_
  refine own_go (B := T350.setTop (mkF m 14 #[.val (.ref a)] [])) (fun t k => Jvm.RoadKit.acmp (g := (mkF m 7 #[.val (.ref a)] [(.ref w_EMP), (.ref w_EMP)])) X350 hx rfl rfl rfl (pc0 := 7) (pc' := 14) (same := true) rfl (hb hby own_d31_7) rfl (decide_eq_true rfl) (by decide) (by decide) k) ?_
  refine own_go (B := T350.setTop (mkF m 15 #[.val (.ref a)] [(.int (1 : Int32))])) (fun t k => XS.iconst X350.here hx rfl (hb hby own_d31_14) k) ?_
  obtain ⟨fs, hr, hrun, hended, hW, hsame⟩ := X350.leave (v := some (.int (1 : Int32))) (fun h => by rw [Bd.returns] at h; cases h)
  refine ⟨_, _, own_retI X350 hx Bd.returns (hb hby own_d31_15) hr, hK _ _ ⟨hrun, hended, _, _, rfl, ?_, ⟨_, rfl⟩, hW, hsame.mono (by decide) (by decide)⟩⟩
  show own_Q_l12size Z a w_NONE w_DEF w_EMP w_EL w_ELA mir kd ke h0 n0 _ T350.heap _
  rw [e350]
  exact ⟨rfl, N0, rfl⟩
theorem own_d32_0 : decode jdk_45_method_3_code 0 = .ok (.aload_n 0, 1) := by decide +kernel
theorem own_d32_1 : decode jdk_45_method_3_code 1 = .ok (.getfield 7, 3) := by decide +kernel
theorem own_d32_4 : decode jdk_45_method_3_code 4 = .ok (.arraylength, 1) := by decide +kernel
theorem own_d32_5 : decode jdk_45_method_3_code 5 = .ok (.ireturn, 1) := by decide +kernel
theorem own_pn_12 : plainName "java/util/ImmutableCollections$ListN" = true := by first | (simp [plainName, overriddenIn]; done) | decide +kernel
theorem own_ef_lnsize (m : MethodId) (x0 : Addr)  : entryFrame m #[(.ref x0)] 1 = mkF m 0 #[.val (.ref x0)] [] := by first | (simp [entryFrame, mkF, argsToLocals, Value.category]; done) | rfl
def own_Q_lnsize (Z : State) (w_NONE w_DEF w_EMP w_EL w_ELA mir : Addr) (kd ke : ClassId) (h0 : Heap) (n0 : Nat) (v : Option Value) (h : Heap) (L : List Loc) : Prop := v = some (.int (0 : Int32)) ∧ Fr n0 L ∧ h = h0
set_option maxRecDepth 65536 in
set_option maxHeartbeats 40000000 in
theorem own_rm_lnsize (l : Launch) (Z : State) (a0 : Array Value) (hw : ∀ d ∈ tables_1, d.before a0 Z = true) (ws : List Jvm.Cond) (w_NONE w_DEF w_EMP w_EL w_ELA mir : Addr) (kd ke : ClassId) (h0 : Heap) (n0 : Nat) (O0 : Old Z n0 h0) (HS : own_St Z w_NONE w_DEF w_EMP w_EL w_ELA mir kd ke) :
    MetFree l (⟨"java/util/ImmutableCollections$ListN", "size", "()I"⟩ : MethodName) (head1 (Jvm.Cond.code (⟨"java/util/ImmutableCollections$ListN", "size", "()I"⟩ : MethodName) jdk_45_method_3_code 1 (some .int) :: ws) ({ frames := 0, cells := 0, slots := 0, locals := 0 } : Room)) (fun ar9 U => ar9 = #[(.ref w_EL)] ∧ Z.Warmed39 U.vm ∧ U.heap = h0) (fun _ _ _ _ _ => True) (fun _ U o U' => ∃ v L, o = .returned v ∧ own_Q_lnsize Z w_NONE w_DEF w_EMP w_EL w_ELA mir kd ke h0 n0 v U'.heap L ∧ FrameEnd U o U' L ({ frames := 0, cells := 0, slots := 0, locals := 0 } : Room).cells ({ frames := 0, cells := 0, slots := 0, locals := 0 } : Room).slots) := by
  refine MetFree.of_bodySF (plainFor_of_name own_pn_12) hisR ?_
  intro p e s m args below meth c s₁ Bd hml0 hP hK0
  obtain ⟨rfl, hZ, hh⟩ := hP
  have hx := Bd.exec
  have hby := Bd.bytes
  have hml : c.maxLocals = 1 := hml0
  have hown : s.vm.findClass "java/util/ImmutableCollections$ListN" = some m.cls := findClass_of_methodNamed Bd.named
  have hnm := (name_of_methodNamed Bd.named Bd.method).1
  have X0 : Stand p l e ({ frames := 0, cells := 0, slots := 0, locals := 0 } : Room) s m #[(.ref w_EL)] below meth c s₁ [] 0 0 := Stand.of_body Bd
  have e0 : s₁.heap = h0 := by rw [← hh, Bd.state]; rfl
  have N0 := Fr.nil n0
  refine own_open fun K hK => ?_
  refine own_go (B := s₁.setTop (mkF m 0 #[.val (.ref w_EL)] [])) (fun t k => castTop (own_ef_lnsize m w_EL) k) ?_
  refine own_go (B := s₁.setTop (mkF m 1 #[.val (.ref w_EL)] [(.ref w_EL)])) (fun t k => XS.aloadN X0.here hx rfl (hb hby own_d32_0) rfl rfl k) ?_
  obtain ⟨T352, X352, e352, st352⟩ := getF X0 hx hZ hown (host := "") (Or.inl (hw _ (List.mem_of_getElem? (i := 251) rfl))) Via.refl e0 (HS.2.2.2.2.2.2.2.2.1.ext O0.2) (g := (mkF m 1 #[.val (.ref w_EL)] [(.ref w_EL)])) rfl rfl (hb hby own_d32_1)
  refine own_go (B := T352.setTop (mkF m 4 #[.val (.ref w_EL)] [(.ref w_ELA)])) (fun t k => st352 _ k) ?_
  obtain ⟨cl353, Ar353, qr353, Sr353, Nr353, Hr353, Gr353⟩ := id (HS.2.2.2.2.2.2.2.2.2.1.ext O0.2)
  refine own_go (B := T352.setTop (mkF m 5 #[.val (.ref w_EL)] [(.int (0 : Int32))])) (fun t k => X352.arraylength hx (by rw [e352]; exact Ar353.1) (State.isArrayOf_alike hZ.alike Ar353.2.1) (g := (mkF m 4 #[.val (.ref w_EL)] [(.ref w_ELA)])) rfl rfl (hb hby own_d32_4) _ (by rw [len_of Sr353 Nr353]; exact k)) ?_
  obtain ⟨fs, hr, hrun, hended, hW, hsame⟩ := X352.leave (v := some (.int (0 : Int32))) (fun h => by rw [Bd.returns] at h; cases h)
  refine ⟨_, _, own_retI X352 hx Bd.returns (hb hby own_d32_5) hr, hK _ _ ⟨hrun, hended, _, _, rfl, ?_, ⟨_, rfl⟩, hW, hsame.mono (by decide) (by decide)⟩⟩
  show own_Q_lnsize Z w_NONE w_DEF w_EMP w_EL w_ELA mir kd ke h0 n0 _ T352.heap _
  rw [e352]
  exact ⟨rfl, N0, rfl⟩
theorem own_d5_0 : decode prog_114_method_2_code 0 = .ok (.aload_n 0, 1) := by decide +kernel
theorem own_d5_1 : decode prog_114_method_2_code 1 = .ok (.invokespecial 7, 3) := by decide +kernel
theorem own_d5_4 : decode prog_114_method_2_code 4 = .ok (.aload_n 1, 1) := by decide +kernel
theorem own_d5_5 : decode prog_114_method_2_code 5 = .ok (.invokeinterface 12 1, 5) := by decide +kernel
theorem own_d5_10 : decode prog_114_method_2_code 10 = .ok (.aload_n 2, 1) := by decide +kernel
theorem own_d5_11 : decode prog_114_method_2_code 11 = .ok (.invokeinterface 12 1, 5) := by decide +kernel
theorem own_d5_16 : decode prog_114_method_2_code 16 = .ok (.iconst 1, 1) := by decide +kernel
theorem own_d5_17 : decode prog_114_method_2_code 17 = .ok (.iadd, 1) := by decide +kernel
theorem own_d5_18 : decode prog_114_method_2_code 18 = .ok (.if_icmp .eq 28, 3) := by decide +kernel
theorem own_d5_46 : decode prog_114_method_2_code 46 = .ok (.iload 4, 2) := by decide +kernel
theorem own_d5_48 : decode prog_114_method_2_code 48 = .ok (.iconst (-1), 1) := by decide +kernel
theorem own_d5_49 : decode prog_114_method_2_code 49 = .ok (.if_icmp .lt 14, 3) := by decide +kernel
theorem own_d5_52 : decode prog_114_method_2_code 52 = .ok (.iload 4, 2) := by decide +kernel
theorem own_d5_54 : decode prog_114_method_2_code 54 = .ok (.aload_n 1, 1) := by decide +kernel
theorem own_d5_55 : decode prog_114_method_2_code 55 = .ok (.invokeinterface 12 1, 5) := by decide +kernel
theorem own_d5_60 : decode prog_114_method_2_code 60 = .ok (.if_icmp .lt 24, 3) := by decide +kernel
theorem own_d5_84 : decode prog_114_method_2_code 84 = .ok (.aload_n 0, 1) := by decide +kernel
theorem own_d5_85 : decode prog_114_method_2_code 85 = .ok (.aload_n 1, 1) := by decide +kernel
theorem own_d5_86 : decode prog_114_method_2_code 86 = .ok (.invokestatic 28, 3) := by decide +kernel
theorem own_d5_89 : decode prog_114_method_2_code 89 = .ok (.putfield 32, 3) := by decide +kernel
theorem own_d5_92 : decode prog_114_method_2_code 92 = .ok (.aload_n 0, 1) := by decide +kernel
theorem own_d5_93 : decode prog_114_method_2_code 93 = .ok (.aload_n 2, 1) := by decide +kernel
theorem own_d5_94 : decode prog_114_method_2_code 94 = .ok (.invokestatic 28, 3) := by decide +kernel
theorem own_d5_97 : decode prog_114_method_2_code 97 = .ok (.putfield 36, 3) := by decide +kernel
theorem own_d5_100 : decode prog_114_method_2_code 100 = .ok (.aload_n 0, 1) := by decide +kernel
theorem own_d5_101 : decode prog_114_method_2_code 101 = .ok (.aload_n 3, 1) := by decide +kernel
theorem own_d5_102 : decode prog_114_method_2_code 102 = .ok (.putfield 39, 3) := by decide +kernel
theorem own_d5_105 : decode prog_114_method_2_code 105 = .ok (.aload_n 0, 1) := by decide +kernel
theorem own_d5_106 : decode prog_114_method_2_code 106 = .ok (.iload 4, 2) := by decide +kernel
theorem own_d5_108 : decode prog_114_method_2_code 108 = .ok (.putfield 43, 3) := by decide +kernel
theorem own_d5_111 : decode prog_114_method_2_code 111 = .ok (.return_, 1) := by decide +kernel
theorem own_pn_13 : plainName "com/example/invariant/invariant/Trace" = true := by first | (simp [plainName, overriddenIn]; done) | decide +kernel
theorem own_ef_tA (m : MethodId) (x0 : Addr) (x1 : Addr) (x2 : Addr) (x4 : Int32)  : entryFrame m #[(.ref x0), (.ref x1), (.ref x2), .null, (.int x4)] 5 = mkF m 0 #[.val (.ref x0), .val (.ref x1), .val (.ref x2), .val .null, .val (.int x4)] [] := by first | (simp [entryFrame, mkF, argsToLocals, Value.category]; done) | rfl
def own_Q_tA (Z : State) (a u y b st : Addr) (kb : ClassId) (w_NONE w_DEF w_EMP w_EL w_ELA mir : Addr) (kd ke : ClassId) (h0 : Heap) (n0 : Nat) (v : Option Value) (h : Heap) (L : List Loc) : Prop := ∃ r : Addr, v = none ∧ Fr n0 L ∧ Keep h0 h [a] ∧ h0.size ≤ r ∧ Exa Z h a "com/example/invariant/invariant/Trace" ∧ Fld Z h a "com/example/invariant/invariant/Trace" "states" "Ljava/util/List;" (.ref r) ∧ Fld Z h a "com/example/invariant/invariant/Trace" "steps" "Ljava/util/List;" (.ref w_EL) ∧ Fld Z h a "com/example/invariant/invariant/Trace" "loop" "I" (.int (-1 : Int32)) ∧ Exa Z h r "java/util/ImmutableCollections$List12" ∧ Fld Z h r "java/util/ImmutableCollections$List12" "e1" "Ljava/lang/Object;" (.ref w_EMP)
set_option maxRecDepth 65536 in
set_option maxHeartbeats 40000000 in
theorem own_rm_tA (l : Launch) (Z : State) (a0 : Array Value) (hw : ∀ d ∈ tables_1, d.before a0 Z = true) (ws : List Jvm.Cond) (a u y b st : Addr) (kb : ClassId) (w_NONE w_DEF w_EMP w_EL w_ELA mir : Addr) (kd ke : ClassId) (h0 : Heap) (n0 : Nat) (O0 : Old Z n0 h0) (HS : own_St Z w_NONE w_DEF w_EMP w_EL w_ELA mir kd ke) (E1 : Exa Z h0 a "com/example/invariant/invariant/Trace") (F2 : Fld Z h0 a "com/example/invariant/invariant/Trace" "states" "Ljava/util/List;" .null) (F3 : Fld Z h0 a "com/example/invariant/invariant/Trace" "steps" "Ljava/util/List;" .null) (F4 : Fld Z h0 a "com/example/invariant/invariant/Trace" "loopStep" "Lcom/example/invariant/invariant/Model$Occurrence;" .null) (F5 : Fld Z h0 a "com/example/invariant/invariant/Trace" "loop" "I" (.int (0 : Int32))) (G6 : n0 ≤ a) (E7 : Exa Z h0 u "java/util/ArrayList") (F8 : Fld Z h0 u "java/util/AbstractList" "modCount" "I" (.int (1 : Int32))) (F9 : Fld Z h0 u "java/util/ArrayList" "elementData" "[Ljava/lang/Object;" (.ref b)) (F10 : Fld Z h0 u "java/util/ArrayList" "size" "I" (.int (1 : Int32))) (E11 : Exa Z h0 b "[Ljava/lang/Object;") (A12 : Arv Z h0 b kb (.object "java/lang/Object") (10 : Int32) [(.ref st), .null, .null, .null, .null, .null, .null, .null, .null, .null] .null) (E13 : Exa Z h0 st "com/example/invariant/invariant/State") (E14 : Exa Z h0 y "java/util/ArrayList") (F15 : Fld Z h0 y "java/util/AbstractList" "modCount" "I" (.int (0 : Int32))) (F16 : Fld Z h0 y "java/util/ArrayList" "elementData" "[Ljava/lang/Object;" (.ref w_DEF)) (F17 : Fld Z h0 y "java/util/ArrayList" "size" "I" (.int (0 : Int32))) :
    MetFree l (⟨"com/example/invariant/invariant/Trace", "<init>", "(Ljava/util/List;Ljava/util/List;Lcom/example/invariant/invariant/Model$Occurrence;I)V"⟩ : MethodName) (head1 (Jvm.Cond.code (⟨"com/example/invariant/invariant/Trace", "<init>", "(Ljava/util/List;Ljava/util/List;Lcom/example/invariant/invariant/Model$Occurrence;I)V"⟩ : MethodName) prog_114_method_2_code 5 none :: ws) ({ frames := 8, cells := 2, slots := 3, locals := 126 } : Room)) (fun ar9 U => ar9 = #[(.ref a), (.ref u), (.ref y), .null, (.int (-1 : Int32))] ∧ Z.Warmed39 U.vm ∧ U.heap = h0) (fun _ _ _ _ _ => True) (fun _ U o U' => ∃ v L, o = .returned v ∧ own_Q_tA Z a u y b st kb w_NONE w_DEF w_EMP w_EL w_ELA mir kd ke h0 n0 v U'.heap L ∧ FrameEnd U o U' L ({ frames := 8, cells := 2, slots := 3, locals := 126 } : Room).cells ({ frames := 8, cells := 2, slots := 3, locals := 126 } : Room).slots) := by
  refine MetFree.of_bodySF (plainFor_of_name own_pn_13) hisR ?_
  intro p e s m args below meth c s₁ Bd hml0 hP hK0
  obtain ⟨rfl, hZ, hh⟩ := hP
  have hx := Bd.exec
  have hby := Bd.bytes
  have hml : c.maxLocals = 5 := hml0
  have hown : s.vm.findClass "com/example/invariant/invariant/Trace" = some m.cls := findClass_of_methodNamed Bd.named
  have hnm := (name_of_methodNamed Bd.named Bd.method).1
  have X0 : Stand p l e ({ frames := 8, cells := 2, slots := 3, locals := 126 } : Room) s m #[(.ref a), (.ref u), (.ref y), .null, (.int (-1 : Int32))] below meth c s₁ [] 0 0 := Stand.of_body Bd
  have e0 : s₁.heap = h0 := by rw [← hh, Bd.state]; rfl
  have N0 := Fr.nil n0
  have K0 := Keep.refl h0 [a]
  refine own_open fun K hK => ?_
  refine own_go (B := s₁.setTop (mkF m 0 #[.val (.ref a), .val (.ref u), .val (.ref y), .val .null, .val (.int (-1 : Int32))] [])) (fun t k => castTop (own_ef_tA m a u y (-1 : Int32)) k) ?_
  refine own_go (B := s₁.setTop (mkF m 1 #[.val (.ref a), .val (.ref u), .val (.ref y), .val .null, .val (.int (-1 : Int32))] [(.ref a)])) (fun t k => XS.aloadN X0.here hx rfl (hb hby own_d5_0) rfl rfl k) ?_
  obtain ⟨T355, X355, e355, st355⟩ := initO X0 hx hZ hown (hw _ (List.mem_of_getElem? (i := 115) rfl)) (hw _ (List.mem_of_getElem? (i := 32) rfl)) (hw _ (List.mem_of_getElem? (i := 33) rfl)) e0 (g := (mkF m 1 #[.val (.ref a), .val (.ref u), .val (.ref y), .val .null, .val (.int (-1 : Int32))] [(.ref a)])) rfl (by rw [hml]; rfl) rfl (hb hby own_d5_1) (by decide) (W := 0) (by show 2 * 0 + _ ≤ _; exact Nat.le_of_eq rfl) (by decide)
  refine own_go (B := T355.setTop (mkF m 4 #[.val (.ref a), .val (.ref u), .val (.ref y), .val .null, .val (.int (-1 : Int32))] [])) (fun t k => st355 _ k) ?_
  refine own_go (B := T355.setTop (mkF m 5 #[.val (.ref a), .val (.ref u), .val (.ref y), .val .null, .val (.int (-1 : Int32))] [(.ref u)])) (fun t k => XS.aloadN X355.here hx rfl (hb hby own_d5_4) rfl rfl k) ?_
  obtain ⟨cq356, kq356, q356a, q356b, q356c⟩ := isOf hZ e355 E7
  obtain ⟨_, _, ⟨T356, L356, k356, n356⟩, -, X356, ⟨Lc356, hQ356, l356, y356, z356⟩, st356⟩ := X355.interfaceBack hx (xi := (⟨"java/util/List", "size", "()I"⟩ : MethodName)) (y := (⟨"java/util/ArrayList", "size", "()I"⟩ : MethodName)) hown (mvT hZ (hw _ (List.mem_of_getElem? (i := 116) rfl))) (mvT hZ (hw _ (List.mem_of_getElem? (i := 117) rfl))) (mvT hZ (hw _ (List.mem_of_getElem? (i := 118) rfl))) (mvT hZ (hw _ (List.mem_of_getElem? (i := 119) rfl))) (mvT hZ (hw _ (List.mem_of_getElem? (i := 120) rfl))) (mvT hZ (hw _ (List.mem_of_getElem? (i := 121) rfl))) (mvT hZ (hw _ (List.mem_of_getElem? (i := 122) rfl))) (mvT hZ (hw _ (List.mem_of_getElem? (i := 123) rfl))) (by decide) (backOf (W := 0) (own_rm_alsize l Z a0 hw [] u (1 : Int32) h0 n0 O0 F10) hZ (hw _ (List.mem_of_getElem? (i := 124) rfl)) (hw _ (List.mem_of_getElem? (i := 53) rfl)) (by decide) (by decide)) q356a q356b q356c (g := (mkF m 5 #[.val (.ref a), .val (.ref u), .val (.ref y), .val .null, .val (.int (-1 : Int32))] [(.ref u)])) rfl (by rw [hml]; rfl) (Steps.refl _) (argsL := []) (rest := []) (lenOf own_pd_0 rfl) rfl (by show 2 * 0 + _ ≤ _; exact Nat.le_of_eq rfl) (hb hby own_d5_5) (fun _ _ => ⟨rfl, e355, (by decide : 0 + 0 ≤ _), (by decide : 0 + 0 ≤ _)⟩)
  dsimp only [Pt.U, Pt.locs, Pt.cells, Pt.slots] at X356 l356 y356 z356 st356 hQ356
  subst l356 y356 z356
  obtain ⟨rfl, N356q, eh356⟩ := hQ356
  have N356 := Fr.app N0 N356q
  refine own_go (B := T356.setTop (mkF m 10 #[.val (.ref a), .val (.ref u), .val (.ref y), .val .null, .val (.int (-1 : Int32))] [(.int (1 : Int32))])) (fun t k => st356.trans k) ?_
  refine own_go (B := T356.setTop (mkF m 11 #[.val (.ref a), .val (.ref u), .val (.ref y), .val .null, .val (.int (-1 : Int32))] [(.ref y), (.int (1 : Int32))])) (fun t k => XS.aloadN X356.here hx rfl (hb hby own_d5_10) rfl rfl k) ?_
  obtain ⟨cq357, kq357, q357a, q357b, q357c⟩ := isOf hZ eh356 E14
  obtain ⟨_, _, ⟨T357, L357, k357, n357⟩, -, X357, ⟨Lc357, hQ357, l357, y357, z357⟩, st357⟩ := X356.interfaceBack hx (xi := (⟨"java/util/List", "size", "()I"⟩ : MethodName)) (y := (⟨"java/util/ArrayList", "size", "()I"⟩ : MethodName)) hown (mvT hZ (hw _ (List.mem_of_getElem? (i := 116) rfl))) (mvT hZ (hw _ (List.mem_of_getElem? (i := 117) rfl))) (mvT hZ (hw _ (List.mem_of_getElem? (i := 118) rfl))) (mvT hZ (hw _ (List.mem_of_getElem? (i := 119) rfl))) (mvT hZ (hw _ (List.mem_of_getElem? (i := 120) rfl))) (mvT hZ (hw _ (List.mem_of_getElem? (i := 121) rfl))) (mvT hZ (hw _ (List.mem_of_getElem? (i := 122) rfl))) (mvT hZ (hw _ (List.mem_of_getElem? (i := 123) rfl))) (by decide) (backOf (W := 1) (own_rm_alsize l Z a0 hw [] y (0 : Int32) h0 n0 O0 F17) hZ (hw _ (List.mem_of_getElem? (i := 124) rfl)) (hw _ (List.mem_of_getElem? (i := 53) rfl)) (by decide) (by decide)) q357a q357b q357c (g := (mkF m 11 #[.val (.ref a), .val (.ref u), .val (.ref y), .val .null, .val (.int (-1 : Int32))] [(.ref y), (.int (1 : Int32))])) rfl (by rw [hml]; rfl) (Steps.refl _) (argsL := []) (rest := [(.int (1 : Int32))]) (lenOf own_pd_0 rfl) rfl (by show 2 * 0 + _ ≤ _; exact Nat.le_of_eq rfl) (hb hby own_d5_11) (fun _ _ => ⟨rfl, eh356, (by decide : 0 + 0 ≤ _), (by decide : 0 + 0 ≤ _)⟩)
  dsimp only [Pt.U, Pt.locs, Pt.cells, Pt.slots] at X357 l357 y357 z357 st357 hQ357
  subst l357 y357 z357
  obtain ⟨rfl, N357q, eh357⟩ := hQ357
  have N357 := Fr.app N356 N357q
  refine own_go (B := T357.setTop (mkF m 16 #[.val (.ref a), .val (.ref u), .val (.ref y), .val .null, .val (.int (-1 : Int32))] [(.int (0 : Int32)), (.int (1 : Int32))])) (fun t k => st357.trans k) ?_
  refine own_go (B := T357.setTop (mkF m 17 #[.val (.ref a), .val (.ref u), .val (.ref y), .val .null, .val (.int (-1 : Int32))] [(.int (1 : Int32)), (.int (0 : Int32)), (.int (1 : Int32))])) (fun t k => XS.iconst X357.here hx rfl (hb hby own_d5_16) k) ?_
  refine own_go (B := T357.setTop (mkF m 18 #[.val (.ref a), .val (.ref u), .val (.ref y), .val .null, .val (.int (-1 : Int32))] [(.int (1 : Int32)), (.int (1 : Int32))])) (fun t k => XS.iadd X357.here hx rfl (hb hby own_d5_17) rfl k) ?_
  refine own_go (B := T357.setTop (mkF m 46 #[.val (.ref a), .val (.ref u), .val (.ref y), .val .null, .val (.int (-1 : Int32))] [])) (fun t k => XS.icmpYes X357.here hx rfl (pc0 := 18) (pc' := 46) rfl (hb hby own_d5_18) rfl (teq (by decide : (1 : Int32) = (1 : Int32))).1 (by decide) (by decide) k) ?_
  refine own_go (B := T357.setTop (mkF m 48 #[.val (.ref a), .val (.ref u), .val (.ref y), .val .null, .val (.int (-1 : Int32))] [(.int (-1 : Int32))])) (fun t k => XS.iload X357.here hx rfl (hb hby own_d5_46) rfl k) ?_
  refine own_go (B := T357.setTop (mkF m 49 #[.val (.ref a), .val (.ref u), .val (.ref y), .val .null, .val (.int (-1 : Int32))] [(.int (-1 : Int32)), (.int (-1 : Int32))])) (fun t k => XS.iconst X357.here hx rfl (hb hby own_d5_48) k) ?_
  refine own_go (B := T357.setTop (mkF m 52 #[.val (.ref a), .val (.ref u), .val (.ref y), .val .null, .val (.int (-1 : Int32))] [])) (fun t k => XS.icmpNo X357.here hx rfl (hb hby own_d5_49) rfl (flt (by decide : ¬ ((-1 : Int32) < (-1 : Int32)))).1 k) ?_
  refine own_go (B := T357.setTop (mkF m 54 #[.val (.ref a), .val (.ref u), .val (.ref y), .val .null, .val (.int (-1 : Int32))] [(.int (-1 : Int32))])) (fun t k => XS.iload X357.here hx rfl (hb hby own_d5_52) rfl k) ?_
  refine own_go (B := T357.setTop (mkF m 55 #[.val (.ref a), .val (.ref u), .val (.ref y), .val .null, .val (.int (-1 : Int32))] [(.ref u), (.int (-1 : Int32))])) (fun t k => XS.aloadN X357.here hx rfl (hb hby own_d5_54) rfl rfl k) ?_
  obtain ⟨cq360, kq360, q360a, q360b, q360c⟩ := isOf hZ eh357 E7
  obtain ⟨_, _, ⟨T360, L360, k360, n360⟩, -, X360, ⟨Lc360, hQ360, l360, y360, z360⟩, st360⟩ := X357.interfaceBack hx (xi := (⟨"java/util/List", "size", "()I"⟩ : MethodName)) (y := (⟨"java/util/ArrayList", "size", "()I"⟩ : MethodName)) hown (mvT hZ (hw _ (List.mem_of_getElem? (i := 116) rfl))) (mvT hZ (hw _ (List.mem_of_getElem? (i := 117) rfl))) (mvT hZ (hw _ (List.mem_of_getElem? (i := 118) rfl))) (mvT hZ (hw _ (List.mem_of_getElem? (i := 119) rfl))) (mvT hZ (hw _ (List.mem_of_getElem? (i := 120) rfl))) (mvT hZ (hw _ (List.mem_of_getElem? (i := 121) rfl))) (mvT hZ (hw _ (List.mem_of_getElem? (i := 122) rfl))) (mvT hZ (hw _ (List.mem_of_getElem? (i := 123) rfl))) (by decide) (backOf (W := 1) (own_rm_alsize l Z a0 hw [] u (1 : Int32) h0 n0 O0 F10) hZ (hw _ (List.mem_of_getElem? (i := 124) rfl)) (hw _ (List.mem_of_getElem? (i := 53) rfl)) (by decide) (by decide)) q360a q360b q360c (g := (mkF m 55 #[.val (.ref a), .val (.ref u), .val (.ref y), .val .null, .val (.int (-1 : Int32))] [(.ref u), (.int (-1 : Int32))])) rfl (by rw [hml]; rfl) (Steps.refl _) (argsL := []) (rest := [(.int (-1 : Int32))]) (lenOf own_pd_0 rfl) rfl (by show 2 * 0 + _ ≤ _; exact Nat.le_of_eq rfl) (hb hby own_d5_55) (fun _ _ => ⟨rfl, eh357, (by decide : 0 + 0 ≤ _), (by decide : 0 + 0 ≤ _)⟩)
  dsimp only [Pt.U, Pt.locs, Pt.cells, Pt.slots] at X360 l360 y360 z360 st360 hQ360
  subst l360 y360 z360
  obtain ⟨rfl, N360q, eh360⟩ := hQ360
  have N360 := Fr.app N357 N360q
  refine own_go (B := T360.setTop (mkF m 60 #[.val (.ref a), .val (.ref u), .val (.ref y), .val .null, .val (.int (-1 : Int32))] [(.int (1 : Int32)), (.int (-1 : Int32))])) (fun t k => st360.trans k) ?_
  refine own_go (B := T360.setTop (mkF m 84 #[.val (.ref a), .val (.ref u), .val (.ref y), .val .null, .val (.int (-1 : Int32))] [])) (fun t k => XS.icmpYes X360.here hx rfl (pc0 := 60) (pc' := 84) rfl (hb hby own_d5_60) rfl (tlt (by decide : (-1 : Int32) < (1 : Int32))).1 (by decide) (by decide) k) ?_
  refine own_go (B := T360.setTop (mkF m 85 #[.val (.ref a), .val (.ref u), .val (.ref y), .val .null, .val (.int (-1 : Int32))] [(.ref a)])) (fun t k => XS.aloadN X360.here hx rfl (hb hby own_d5_84) rfl rfl k) ?_
  refine own_go (B := T360.setTop (mkF m 86 #[.val (.ref a), .val (.ref u), .val (.ref y), .val .null, .val (.int (-1 : Int32))] [(.ref u), (.ref a)])) (fun t k => XS.aloadN X360.here hx rfl (hb hby own_d5_85) rfl rfl k) ?_
  have lt_a_362 := E1.lt
  have lt_u_362 := E7.lt
  have lt_b_362 := E11.lt
  have lt_st_362 := E13.lt
  have lt_y_362 := E14.lt
  obtain ⟨_, _, ⟨T363, L363, k363, n363⟩, -, X363, ⟨Lc363, hQ363, l363, y363, z363⟩, st363⟩ := Jvm.LawKit.callS X360 hx (y := (⟨"java/util/List", "copyOf", "(Ljava/util/Collection;)Ljava/util/List;"⟩ : MethodName)) hown (mvT hZ (hw _ (List.mem_of_getElem? (i := 125) rfl))) (mvT hZ (hw _ (List.mem_of_getElem? (i := 126) rfl))) (mvT hZ (hw _ (List.mem_of_getElem? (i := 127) rfl))) (mvT hZ (hw _ (List.mem_of_getElem? (i := 128) rfl))) (by decide) (backOf (W := 1) (own_rm_coA1 l Z a0 hw [] u b st kb w_NONE w_DEF w_EMP w_EL w_ELA mir kd ke h0 n0 O0 HS E7 F8 F9 F10 E11 A12 E13) hZ (hw _ (List.mem_of_getElem? (i := 128) rfl)) (hw _ (List.mem_of_getElem? (i := 127) rfl)) (by decide) (by decide)) (g := (mkF m 86 #[.val (.ref a), .val (.ref u), .val (.ref y), .val .null, .val (.int (-1 : Int32))] [(.ref u), (.ref a)])) rfl (by rw [hml]; rfl) (argsL := [(.ref u)]) (rest := [(.ref a)]) (lenOf own_pd_17 rfl) rfl (by show 2 * 0 + _ ≤ _; exact Nat.le_of_eq rfl) (hb hby own_d5_86) (fun _ _ => ⟨rfl, eh360, (by decide : 0 + 2 ≤ _), (by decide : 0 + 3 ≤ _)⟩)
  dsimp only [Pt.U, Pt.locs, Pt.cells, Pt.slots] at X363 l363 y363 z363 st363 hQ363
  subst l363 y363 z363
  obtain ⟨r_363, rfl, N363q, Kc363, Q363_0, Q363_1, Q363_2⟩ := hQ363
  have E363 := Kc363
  have O363 := O0.ext E363
  have K363 := K0.ext E363
  have N363 := Fr.app N360 N363q
  refine own_go (B := T363.setTop (mkF m 89 #[.val (.ref a), .val (.ref u), .val (.ref y), .val .null, .val (.int (-1 : Int32))] [(.ref r_363), (.ref a)])) (fun t k => st363 _ k) ?_
  have g_r_363 : n0 ≤ r_363 := Nat.le_trans (own_n0 O0) Q363_0
  have sz_r_363 : h0.size ≤ r_363 := Nat.le_trans K0.1 Q363_0
  have f364 := (F2.ext E363)
  have f365 := (E1.ext E363)
  obtain ⟨T366, h366, X366, e366, W366, st366⟩ := putF X363 hx hZ hown (host := "") (Or.inl (hw _ (List.mem_of_getElem? (i := 209) rfl))) Via.refl (rfl : T363.heap = T363.heap) f364 f365 (Or.inr ⟨(hw _ (List.mem_of_getElem? (i := 210) rfl)), rfl, hnm⟩) (hw _ (List.mem_of_getElem? (i := 107) rfl)) (ty := (.object "java/util/List")) (by decide) rfl rfl (g := (mkF m 89 #[.val (.ref a), .val (.ref u), .val (.ref y), .val .null, .val (.int (-1 : Int32))] [(.ref r_363), (.ref a)])) rfl rfl (hb hby own_d5_89)
  have Fw366 := f364.same W366
  have N366 := Fr.snoc X366 N363 G6
  have O366 := O363.wr W366 G6
  have K366 := K363.wr W366 (Or.inl (by simp))
  refine own_go (B := T366.setTop (mkF m 92 #[.val (.ref a), .val (.ref u), .val (.ref y), .val .null, .val (.int (-1 : Int32))] [])) (fun t k => st366 _ k) ?_
  refine own_go (B := T366.setTop (mkF m 93 #[.val (.ref a), .val (.ref u), .val (.ref y), .val .null, .val (.int (-1 : Int32))] [(.ref a)])) (fun t k => XS.aloadN X366.here hx rfl (hb hby own_d5_92) rfl rfl k) ?_
  refine own_go (B := T366.setTop (mkF m 94 #[.val (.ref a), .val (.ref u), .val (.ref y), .val .null, .val (.int (-1 : Int32))] [(.ref y), (.ref a)])) (fun t k => XS.aloadN X366.here hx rfl (hb hby own_d5_93) rfl rfl k) ?_
  have f367 := ((E14.ext E363).wr W366)
  have f368 := (f365.wr W366)
  have f369 := ((F15.ext E363).other W366 (Or.inl (ne_exa f367 f368 (by decide))))
  have f370 := ((F16.ext E363).other W366 (Or.inl (ne_exa f367 f368 (by decide))))
  have f371 := ((F17.ext E363).other W366 (Or.inl (ne_exa f367 f368 (by decide))))
  obtain ⟨_, _, ⟨T372, L372, k372, n372⟩, -, X372, ⟨Lc372, hQ372, l372, y372, z372⟩, st372⟩ := Jvm.LawKit.callS X366 hx (y := (⟨"java/util/List", "copyOf", "(Ljava/util/Collection;)Ljava/util/List;"⟩ : MethodName)) hown (mvT hZ (hw _ (List.mem_of_getElem? (i := 125) rfl))) (mvT hZ (hw _ (List.mem_of_getElem? (i := 126) rfl))) (mvT hZ (hw _ (List.mem_of_getElem? (i := 127) rfl))) (mvT hZ (hw _ (List.mem_of_getElem? (i := 128) rfl))) (by decide) (backOf (W := 1) (own_rm_coA0 l Z a0 hw [] y w_NONE w_DEF w_EMP w_EL w_ELA mir kd ke h366 n0 O366 HS f367 f369 f370 f371) hZ (hw _ (List.mem_of_getElem? (i := 128) rfl)) (hw _ (List.mem_of_getElem? (i := 127) rfl)) (by decide) (by decide)) (g := (mkF m 94 #[.val (.ref a), .val (.ref u), .val (.ref y), .val .null, .val (.int (-1 : Int32))] [(.ref y), (.ref a)])) rfl (by rw [hml]; rfl) (argsL := [(.ref y)]) (rest := [(.ref a)]) (lenOf own_pd_17 rfl) rfl (by show 2 * 0 + _ ≤ _; exact Nat.le_of_eq rfl) (hb hby own_d5_94) (fun _ _ => ⟨rfl, e366, (by decide : 2 + 0 ≤ _), (by decide : 3 + 0 ≤ _)⟩)
  dsimp only [Pt.U, Pt.locs, Pt.cells, Pt.slots] at X372 l372 y372 z372 st372 hQ372
  subst l372 y372 z372
  obtain ⟨rfl, N372q, eh372⟩ := hQ372
  have N372 := Fr.app N366 N372q
  refine own_go (B := T372.setTop (mkF m 97 #[.val (.ref a), .val (.ref u), .val (.ref y), .val .null, .val (.int (-1 : Int32))] [(.ref w_EL), (.ref a)])) (fun t k => st372 _ k) ?_
  have f373 := ((F3.ext E363).other W366 (Or.inr (slot_ne (Or.inr (hw _ (List.mem_of_getElem? (i := 216) rfl))) (Or.inr (hw _ (List.mem_of_getElem? (i := 210) rfl))) (by decide) (t := (.object "java/util/List")) (t' := (.object "java/util/List")) (by decide) (by decide))))
  obtain ⟨T374, h374, X374, e374, W374, st374⟩ := putF X372 hx hZ hown (host := "") (Or.inl (hw _ (List.mem_of_getElem? (i := 215) rfl))) Via.refl eh372 f373 f368 (Or.inr ⟨(hw _ (List.mem_of_getElem? (i := 216) rfl)), rfl, hnm⟩) (hw _ (List.mem_of_getElem? (i := 107) rfl)) (ty := (.object "java/util/List")) (by decide) rfl rfl (g := (mkF m 97 #[.val (.ref a), .val (.ref u), .val (.ref y), .val .null, .val (.int (-1 : Int32))] [(.ref w_EL), (.ref a)])) rfl rfl (hb hby own_d5_97)
  have Fw374 := f373.same W374
  have N374 := Fr.snoc X374 N372 G6
  have O374 := O366.wr W374 G6
  have K374 := K366.wr W374 (Or.inl (by simp))
  refine own_go (B := T374.setTop (mkF m 100 #[.val (.ref a), .val (.ref u), .val (.ref y), .val .null, .val (.int (-1 : Int32))] [])) (fun t k => st374 _ k) ?_
  refine own_go (B := T374.setTop (mkF m 101 #[.val (.ref a), .val (.ref u), .val (.ref y), .val .null, .val (.int (-1 : Int32))] [(.ref a)])) (fun t k => XS.aloadN X374.here hx rfl (hb hby own_d5_100) rfl rfl k) ?_
  refine own_go (B := T374.setTop (mkF m 102 #[.val (.ref a), .val (.ref u), .val (.ref y), .val .null, .val (.int (-1 : Int32))] [.null, (.ref a)])) (fun t k => XS.aloadN X374.here hx rfl (hb hby own_d5_101) rfl rfl k) ?_
  have f375 := (((F4.ext E363).other W366 (Or.inr (slot_ne (Or.inr (hw _ (List.mem_of_getElem? (i := 218) rfl))) (Or.inr (hw _ (List.mem_of_getElem? (i := 210) rfl))) (by decide) (t := (.object "com/example/invariant/invariant/Model$Occurrence")) (t' := (.object "java/util/List")) (by decide) (by decide)))).other W374 (Or.inr (slot_ne (Or.inr (hw _ (List.mem_of_getElem? (i := 218) rfl))) (Or.inr (hw _ (List.mem_of_getElem? (i := 216) rfl))) (by decide) (t := (.object "com/example/invariant/invariant/Model$Occurrence")) (t' := (.object "java/util/List")) (by decide) (by decide))))
  have f376 := (f368.wr W374)
  obtain ⟨T377, h377, X377, e377, W377, st377⟩ := putF X374 hx hZ hown (host := "") (Or.inl (hw _ (List.mem_of_getElem? (i := 217) rfl))) Via.refl e374 f375 f376 (Or.inr ⟨(hw _ (List.mem_of_getElem? (i := 218) rfl)), rfl, hnm⟩) (hw _ (List.mem_of_getElem? (i := 107) rfl)) (ty := (.object "com/example/invariant/invariant/Model$Occurrence")) (by decide) rfl rfl (g := (mkF m 102 #[.val (.ref a), .val (.ref u), .val (.ref y), .val .null, .val (.int (-1 : Int32))] [.null, (.ref a)])) rfl rfl (hb hby own_d5_102)
  have Fw377 := f375.same W377
  have N377 := Fr.snoc X377 N374 G6
  have O377 := O374.wr W377 G6
  have K377 := K374.wr W377 (Or.inl (by simp))
  refine own_go (B := T377.setTop (mkF m 105 #[.val (.ref a), .val (.ref u), .val (.ref y), .val .null, .val (.int (-1 : Int32))] [])) (fun t k => st377 _ k) ?_
  refine own_go (B := T377.setTop (mkF m 106 #[.val (.ref a), .val (.ref u), .val (.ref y), .val .null, .val (.int (-1 : Int32))] [(.ref a)])) (fun t k => XS.aloadN X377.here hx rfl (hb hby own_d5_105) rfl rfl k) ?_
  refine own_go (B := T377.setTop (mkF m 108 #[.val (.ref a), .val (.ref u), .val (.ref y), .val .null, .val (.int (-1 : Int32))] [(.int (-1 : Int32)), (.ref a)])) (fun t k => XS.iload X377.here hx rfl (hb hby own_d5_106) rfl k) ?_
  have f378 := ((((F5.ext E363).other W366 (Or.inr (slot_ne (Or.inr (hw _ (List.mem_of_getElem? (i := 220) rfl))) (Or.inr (hw _ (List.mem_of_getElem? (i := 210) rfl))) (by decide) (t := .int) (t' := (.object "java/util/List")) (by decide) (by decide)))).other W374 (Or.inr (slot_ne (Or.inr (hw _ (List.mem_of_getElem? (i := 220) rfl))) (Or.inr (hw _ (List.mem_of_getElem? (i := 216) rfl))) (by decide) (t := .int) (t' := (.object "java/util/List")) (by decide) (by decide)))).other W377 (Or.inr (slot_ne (Or.inr (hw _ (List.mem_of_getElem? (i := 220) rfl))) (Or.inr (hw _ (List.mem_of_getElem? (i := 218) rfl))) (by decide) (t := .int) (t' := (.object "com/example/invariant/invariant/Model$Occurrence")) (by decide) (by decide))))
  have f379 := (f376.wr W377)
  obtain ⟨T380, h380, X380, e380, W380, st380⟩ := putF X377 hx hZ hown (host := "") (Or.inl (hw _ (List.mem_of_getElem? (i := 219) rfl))) Via.refl e377 f378 f379 (Or.inr ⟨(hw _ (List.mem_of_getElem? (i := 220) rfl)), rfl, hnm⟩) (hw _ (List.mem_of_getElem? (i := 107) rfl)) (ty := .int) (by decide) rfl rfl (g := (mkF m 108 #[.val (.ref a), .val (.ref u), .val (.ref y), .val .null, .val (.int (-1 : Int32))] [(.int (-1 : Int32)), (.ref a)])) rfl rfl (hb hby own_d5_108)
  have Fw380 := f378.same W380
  have N380 := Fr.snoc X380 N377 G6
  have O380 := O377.wr W380 G6
  have K380 := K377.wr W380 (Or.inl (by simp))
  refine own_go (B := T380.setTop (mkF m 111 #[.val (.ref a), .val (.ref u), .val (.ref y), .val .null, .val (.int (-1 : Int32))] [])) (fun t k => st380 _ k) ?_
  obtain ⟨fs, hr, hrun, hended, hW, hsame⟩ := X380.leave (v := none) (fun _ => rfl)
  have f382 := (f379.wr W380)
  have f383 := (((Fw366.other W374 (Or.inr (slot_ne (Or.inr (hw _ (List.mem_of_getElem? (i := 210) rfl))) (Or.inr (hw _ (List.mem_of_getElem? (i := 216) rfl))) (by decide) (t := (.object "java/util/List")) (t' := (.object "java/util/List")) (by decide) (by decide)))).other W377 (Or.inr (slot_ne (Or.inr (hw _ (List.mem_of_getElem? (i := 210) rfl))) (Or.inr (hw _ (List.mem_of_getElem? (i := 218) rfl))) (by decide) (t := (.object "java/util/List")) (t' := (.object "com/example/invariant/invariant/Model$Occurrence")) (by decide) (by decide)))).other W380 (Or.inr (slot_ne (Or.inr (hw _ (List.mem_of_getElem? (i := 210) rfl))) (Or.inr (hw _ (List.mem_of_getElem? (i := 220) rfl))) (by decide) (t := (.object "java/util/List")) (t' := .int) (by decide) (by decide))))
  have f384 := ((Fw374.other W377 (Or.inr (slot_ne (Or.inr (hw _ (List.mem_of_getElem? (i := 216) rfl))) (Or.inr (hw _ (List.mem_of_getElem? (i := 218) rfl))) (by decide) (t := (.object "java/util/List")) (t' := (.object "com/example/invariant/invariant/Model$Occurrence")) (by decide) (by decide)))).other W380 (Or.inr (slot_ne (Or.inr (hw _ (List.mem_of_getElem? (i := 216) rfl))) (Or.inr (hw _ (List.mem_of_getElem? (i := 220) rfl))) (by decide) (t := (.object "java/util/List")) (t' := .int) (by decide) (by decide))))
  have f385 := ((((Q363_1.wr W366).wr W374).wr W377).wr W380)
  have f386 := ((((Q363_2.other W366 (Or.inl (Ne.symm (Nat.ne_of_lt (Nat.lt_of_lt_of_le lt_a_362 Q363_0))))).other W374 (Or.inl (Ne.symm (Nat.ne_of_lt (Nat.lt_of_lt_of_le lt_a_362 Q363_0))))).other W377 (Or.inl (Ne.symm (Nat.ne_of_lt (Nat.lt_of_lt_of_le lt_a_362 Q363_0))))).other W380 (Or.inl (Ne.symm (Nat.ne_of_lt (Nat.lt_of_lt_of_le lt_a_362 Q363_0)))))
  refine ⟨_, _, X380.returnOut hx Bd.returns (hb hby own_d5_111) hr, hK _ _ ⟨hrun, hended, _, _, rfl, ?_, ⟨_, rfl⟩, hW, hsame.mono (by decide) (by decide)⟩⟩
  show own_Q_tA Z a u y b st kb w_NONE w_DEF w_EMP w_EL w_ELA mir kd ke h0 n0 _ T380.heap _
  rw [e380]
  exact ⟨r_363, rfl, N380, K380, sz_r_363, f382, f383, f384, Fw380, f385, f386⟩
theorem own_ef_tL (m : MethodId) (x0 : Addr) (x1 : Addr) (x2 : Addr) (x4 : Int32)  : entryFrame m #[(.ref x0), (.ref x1), (.ref x2), .null, (.int x4)] 5 = mkF m 0 #[.val (.ref x0), .val (.ref x1), .val (.ref x2), .val .null, .val (.int x4)] [] := by first | (simp [entryFrame, mkF, argsToLocals, Value.category]; done) | rfl
def own_Q_tL (Z : State) (a u : Addr) (w_NONE w_DEF w_EMP w_EL w_ELA mir : Addr) (kd ke : ClassId) (h0 : Heap) (n0 : Nat) (v : Option Value) (h : Heap) (L : List Loc) : Prop := v = none ∧ Fr n0 L ∧ Keep h0 h [a] ∧ Exa Z h a "com/example/invariant/invariant/Trace" ∧ Fld Z h a "com/example/invariant/invariant/Trace" "states" "Ljava/util/List;" (.ref u) ∧ Fld Z h a "com/example/invariant/invariant/Trace" "steps" "Ljava/util/List;" (.ref w_EL) ∧ Fld Z h a "com/example/invariant/invariant/Trace" "loop" "I" (.int (0 : Int32)) ∧ Exa Z h u "java/util/ImmutableCollections$List12" ∧ Fld Z h u "java/util/ImmutableCollections$List12" "e1" "Ljava/lang/Object;" (.ref w_EMP)
set_option maxRecDepth 65536 in
set_option maxHeartbeats 40000000 in
theorem own_rm_tL (l : Launch) (Z : State) (a0 : Array Value) (hw : ∀ d ∈ tables_1, d.before a0 Z = true) (ws : List Jvm.Cond) (a u : Addr) (w_NONE w_DEF w_EMP w_EL w_ELA mir : Addr) (kd ke : ClassId) (h0 : Heap) (n0 : Nat) (O0 : Old Z n0 h0) (HS : own_St Z w_NONE w_DEF w_EMP w_EL w_ELA mir kd ke) (E1 : Exa Z h0 a "com/example/invariant/invariant/Trace") (F2 : Fld Z h0 a "com/example/invariant/invariant/Trace" "states" "Ljava/util/List;" .null) (F3 : Fld Z h0 a "com/example/invariant/invariant/Trace" "steps" "Ljava/util/List;" .null) (F4 : Fld Z h0 a "com/example/invariant/invariant/Trace" "loopStep" "Lcom/example/invariant/invariant/Model$Occurrence;" .null) (F5 : Fld Z h0 a "com/example/invariant/invariant/Trace" "loop" "I" (.int (0 : Int32))) (G6 : n0 ≤ a) (E7 : Exa Z h0 u "java/util/ImmutableCollections$List12") (F8 : Fld Z h0 u "java/util/ImmutableCollections$List12" "e1" "Ljava/lang/Object;" (.ref w_EMP)) :
    MetFree l (⟨"com/example/invariant/invariant/Trace", "<init>", "(Ljava/util/List;Ljava/util/List;Lcom/example/invariant/invariant/Model$Occurrence;I)V"⟩ : MethodName) (head1 (Jvm.Cond.code (⟨"com/example/invariant/invariant/Trace", "<init>", "(Ljava/util/List;Ljava/util/List;Lcom/example/invariant/invariant/Model$Occurrence;I)V"⟩ : MethodName) prog_114_method_2_code 5 none :: ws) ({ frames := 2, cells := 0, slots := 0, locals := 26 } : Room)) (fun ar9 U => ar9 = #[(.ref a), (.ref u), (.ref w_EL), .null, (.int (0 : Int32))] ∧ Z.Warmed39 U.vm ∧ U.heap = h0) (fun _ _ _ _ _ => True) (fun _ U o U' => ∃ v L, o = .returned v ∧ own_Q_tL Z a u w_NONE w_DEF w_EMP w_EL w_ELA mir kd ke h0 n0 v U'.heap L ∧ FrameEnd U o U' L ({ frames := 2, cells := 0, slots := 0, locals := 26 } : Room).cells ({ frames := 2, cells := 0, slots := 0, locals := 26 } : Room).slots) := by
  refine MetFree.of_bodySF (plainFor_of_name own_pn_13) hisR ?_
  intro p e s m args below meth c s₁ Bd hml0 hP hK0
  obtain ⟨rfl, hZ, hh⟩ := hP
  have hx := Bd.exec
  have hby := Bd.bytes
  have hml : c.maxLocals = 5 := hml0
  have hown : s.vm.findClass "com/example/invariant/invariant/Trace" = some m.cls := findClass_of_methodNamed Bd.named
  have hnm := (name_of_methodNamed Bd.named Bd.method).1
  have X0 : Stand p l e ({ frames := 2, cells := 0, slots := 0, locals := 26 } : Room) s m #[(.ref a), (.ref u), (.ref w_EL), .null, (.int (0 : Int32))] below meth c s₁ [] 0 0 := Stand.of_body Bd
  have e0 : s₁.heap = h0 := by rw [← hh, Bd.state]; rfl
  have N0 := Fr.nil n0
  have K0 := Keep.refl h0 [a]
  refine own_open fun K hK => ?_
  refine own_go (B := s₁.setTop (mkF m 0 #[.val (.ref a), .val (.ref u), .val (.ref w_EL), .val .null, .val (.int (0 : Int32))] [])) (fun t k => castTop (own_ef_tL m a u w_EL (0 : Int32)) k) ?_
  refine own_go (B := s₁.setTop (mkF m 1 #[.val (.ref a), .val (.ref u), .val (.ref w_EL), .val .null, .val (.int (0 : Int32))] [(.ref a)])) (fun t k => XS.aloadN X0.here hx rfl (hb hby own_d5_0) rfl rfl k) ?_
  obtain ⟨T387, X387, e387, st387⟩ := initO X0 hx hZ hown (hw _ (List.mem_of_getElem? (i := 115) rfl)) (hw _ (List.mem_of_getElem? (i := 32) rfl)) (hw _ (List.mem_of_getElem? (i := 33) rfl)) e0 (g := (mkF m 1 #[.val (.ref a), .val (.ref u), .val (.ref w_EL), .val .null, .val (.int (0 : Int32))] [(.ref a)])) rfl (by rw [hml]; rfl) rfl (hb hby own_d5_1) (by decide) (W := 0) (by show 2 * 0 + _ ≤ _; exact Nat.le_of_eq rfl) (by decide)
  refine own_go (B := T387.setTop (mkF m 4 #[.val (.ref a), .val (.ref u), .val (.ref w_EL), .val .null, .val (.int (0 : Int32))] [])) (fun t k => st387 _ k) ?_
  refine own_go (B := T387.setTop (mkF m 5 #[.val (.ref a), .val (.ref u), .val (.ref w_EL), .val .null, .val (.int (0 : Int32))] [(.ref u)])) (fun t k => XS.aloadN X387.here hx rfl (hb hby own_d5_4) rfl rfl k) ?_
  obtain ⟨cq388, kq388, q388a, q388b, q388c⟩ := isOf hZ e387 E7
  obtain ⟨_, _, ⟨T388, L388, k388, n388⟩, -, X388, ⟨Lc388, hQ388, l388, y388, z388⟩, st388⟩ := X387.interfaceBack hx (xi := (⟨"java/util/List", "size", "()I"⟩ : MethodName)) (y := (⟨"java/util/ImmutableCollections$List12", "size", "()I"⟩ : MethodName)) hown (mvT hZ (hw _ (List.mem_of_getElem? (i := 116) rfl))) (mvT hZ (hw _ (List.mem_of_getElem? (i := 117) rfl))) (mvT hZ (hw _ (List.mem_of_getElem? (i := 118) rfl))) (mvT hZ (hw _ (List.mem_of_getElem? (i := 231) rfl))) (mvT hZ (hw _ (List.mem_of_getElem? (i := 232) rfl))) (mvT hZ (hw _ (List.mem_of_getElem? (i := 233) rfl))) (mvT hZ (hw _ (List.mem_of_getElem? (i := 234) rfl))) (mvT hZ (hw _ (List.mem_of_getElem? (i := 235) rfl))) (by decide) (backOf (W := 0) (own_rm_l12size l Z a0 hw [] u w_NONE w_DEF w_EMP w_EL w_ELA mir kd ke h0 n0 O0 HS E7 F8) hZ (hw _ (List.mem_of_getElem? (i := 236) rfl)) (hw _ (List.mem_of_getElem? (i := 182) rfl)) (by decide) (by decide)) q388a q388b q388c (g := (mkF m 5 #[.val (.ref a), .val (.ref u), .val (.ref w_EL), .val .null, .val (.int (0 : Int32))] [(.ref u)])) rfl (by rw [hml]; rfl) (Steps.refl _) (argsL := []) (rest := []) (lenOf own_pd_0 rfl) rfl (by show 2 * 0 + _ ≤ _; exact Nat.le_of_eq rfl) (hb hby own_d5_5) (fun _ _ => ⟨rfl, e387, (by decide : 0 + 0 ≤ _), (by decide : 0 + 0 ≤ _)⟩)
  dsimp only [Pt.U, Pt.locs, Pt.cells, Pt.slots] at X388 l388 y388 z388 st388 hQ388
  subst l388 y388 z388
  obtain ⟨rfl, N388q, eh388⟩ := hQ388
  have N388 := Fr.app N0 N388q
  refine own_go (B := T388.setTop (mkF m 10 #[.val (.ref a), .val (.ref u), .val (.ref w_EL), .val .null, .val (.int (0 : Int32))] [(.int (1 : Int32))])) (fun t k => st388.trans k) ?_
  refine own_go (B := T388.setTop (mkF m 11 #[.val (.ref a), .val (.ref u), .val (.ref w_EL), .val .null, .val (.int (0 : Int32))] [(.ref w_EL), (.int (1 : Int32))])) (fun t k => XS.aloadN X388.here hx rfl (hb hby own_d5_10) rfl rfl k) ?_
  obtain ⟨cq389, kq389, q389a, q389b, q389c⟩ := isOf hZ eh388 (HS.2.2.2.2.2.2.2.1.ext O0.2)
  obtain ⟨_, _, ⟨T389, L389, k389, n389⟩, -, X389, ⟨Lc389, hQ389, l389, y389, z389⟩, st389⟩ := X388.interfaceBack hx (xi := (⟨"java/util/List", "size", "()I"⟩ : MethodName)) (y := (⟨"java/util/ImmutableCollections$ListN", "size", "()I"⟩ : MethodName)) hown (mvT hZ (hw _ (List.mem_of_getElem? (i := 116) rfl))) (mvT hZ (hw _ (List.mem_of_getElem? (i := 117) rfl))) (mvT hZ (hw _ (List.mem_of_getElem? (i := 118) rfl))) (mvT hZ (hw _ (List.mem_of_getElem? (i := 244) rfl))) (mvT hZ (hw _ (List.mem_of_getElem? (i := 245) rfl))) (mvT hZ (hw _ (List.mem_of_getElem? (i := 246) rfl))) (mvT hZ (hw _ (List.mem_of_getElem? (i := 247) rfl))) (mvT hZ (hw _ (List.mem_of_getElem? (i := 248) rfl))) (by decide) (backOf (W := 1) (own_rm_lnsize l Z a0 hw [] w_NONE w_DEF w_EMP w_EL w_ELA mir kd ke h0 n0 O0 HS) hZ (hw _ (List.mem_of_getElem? (i := 250) rfl)) (hw _ (List.mem_of_getElem? (i := 249) rfl)) (by decide) (by decide)) q389a q389b q389c (g := (mkF m 11 #[.val (.ref a), .val (.ref u), .val (.ref w_EL), .val .null, .val (.int (0 : Int32))] [(.ref w_EL), (.int (1 : Int32))])) rfl (by rw [hml]; rfl) (Steps.refl _) (argsL := []) (rest := [(.int (1 : Int32))]) (lenOf own_pd_0 rfl) rfl (by show 2 * 0 + _ ≤ _; exact Nat.le_of_eq rfl) (hb hby own_d5_11) (fun _ _ => ⟨rfl, eh388, (by decide : 0 + 0 ≤ _), (by decide : 0 + 0 ≤ _)⟩)
  dsimp only [Pt.U, Pt.locs, Pt.cells, Pt.slots] at X389 l389 y389 z389 st389 hQ389
  subst l389 y389 z389
  obtain ⟨rfl, N389q, eh389⟩ := hQ389
  have N389 := Fr.app N388 N389q
  refine own_go (B := T389.setTop (mkF m 16 #[.val (.ref a), .val (.ref u), .val (.ref w_EL), .val .null, .val (.int (0 : Int32))] [(.int (0 : Int32)), (.int (1 : Int32))])) (fun t k => st389.trans k) ?_
  refine own_go (B := T389.setTop (mkF m 17 #[.val (.ref a), .val (.ref u), .val (.ref w_EL), .val .null, .val (.int (0 : Int32))] [(.int (1 : Int32)), (.int (0 : Int32)), (.int (1 : Int32))])) (fun t k => XS.iconst X389.here hx rfl (hb hby own_d5_16) k) ?_
  refine own_go (B := T389.setTop (mkF m 18 #[.val (.ref a), .val (.ref u), .val (.ref w_EL), .val .null, .val (.int (0 : Int32))] [(.int (1 : Int32)), (.int (1 : Int32))])) (fun t k => XS.iadd X389.here hx rfl (hb hby own_d5_17) rfl k) ?_
  refine own_go (B := T389.setTop (mkF m 46 #[.val (.ref a), .val (.ref u), .val (.ref w_EL), .val .null, .val (.int (0 : Int32))] [])) (fun t k => XS.icmpYes X389.here hx rfl (pc0 := 18) (pc' := 46) rfl (hb hby own_d5_18) rfl (teq (by decide : (1 : Int32) = (1 : Int32))).1 (by decide) (by decide) k) ?_
  refine own_go (B := T389.setTop (mkF m 48 #[.val (.ref a), .val (.ref u), .val (.ref w_EL), .val .null, .val (.int (0 : Int32))] [(.int (0 : Int32))])) (fun t k => XS.iload X389.here hx rfl (hb hby own_d5_46) rfl k) ?_
  refine own_go (B := T389.setTop (mkF m 49 #[.val (.ref a), .val (.ref u), .val (.ref w_EL), .val .null, .val (.int (0 : Int32))] [(.int (-1 : Int32)), (.int (0 : Int32))])) (fun t k => XS.iconst X389.here hx rfl (hb hby own_d5_48) k) ?_
  refine own_go (B := T389.setTop (mkF m 52 #[.val (.ref a), .val (.ref u), .val (.ref w_EL), .val .null, .val (.int (0 : Int32))] [])) (fun t k => XS.icmpNo X389.here hx rfl (hb hby own_d5_49) rfl (flt (by decide : ¬ ((0 : Int32) < (-1 : Int32)))).1 k) ?_
  refine own_go (B := T389.setTop (mkF m 54 #[.val (.ref a), .val (.ref u), .val (.ref w_EL), .val .null, .val (.int (0 : Int32))] [(.int (0 : Int32))])) (fun t k => XS.iload X389.here hx rfl (hb hby own_d5_52) rfl k) ?_
  refine own_go (B := T389.setTop (mkF m 55 #[.val (.ref a), .val (.ref u), .val (.ref w_EL), .val .null, .val (.int (0 : Int32))] [(.ref u), (.int (0 : Int32))])) (fun t k => XS.aloadN X389.here hx rfl (hb hby own_d5_54) rfl rfl k) ?_
  obtain ⟨cq392, kq392, q392a, q392b, q392c⟩ := isOf hZ eh389 E7
  obtain ⟨_, _, ⟨T392, L392, k392, n392⟩, -, X392, ⟨Lc392, hQ392, l392, y392, z392⟩, st392⟩ := X389.interfaceBack hx (xi := (⟨"java/util/List", "size", "()I"⟩ : MethodName)) (y := (⟨"java/util/ImmutableCollections$List12", "size", "()I"⟩ : MethodName)) hown (mvT hZ (hw _ (List.mem_of_getElem? (i := 116) rfl))) (mvT hZ (hw _ (List.mem_of_getElem? (i := 117) rfl))) (mvT hZ (hw _ (List.mem_of_getElem? (i := 118) rfl))) (mvT hZ (hw _ (List.mem_of_getElem? (i := 231) rfl))) (mvT hZ (hw _ (List.mem_of_getElem? (i := 232) rfl))) (mvT hZ (hw _ (List.mem_of_getElem? (i := 233) rfl))) (mvT hZ (hw _ (List.mem_of_getElem? (i := 234) rfl))) (mvT hZ (hw _ (List.mem_of_getElem? (i := 235) rfl))) (by decide) (backOf (W := 1) (own_rm_l12size l Z a0 hw [] u w_NONE w_DEF w_EMP w_EL w_ELA mir kd ke h0 n0 O0 HS E7 F8) hZ (hw _ (List.mem_of_getElem? (i := 236) rfl)) (hw _ (List.mem_of_getElem? (i := 182) rfl)) (by decide) (by decide)) q392a q392b q392c (g := (mkF m 55 #[.val (.ref a), .val (.ref u), .val (.ref w_EL), .val .null, .val (.int (0 : Int32))] [(.ref u), (.int (0 : Int32))])) rfl (by rw [hml]; rfl) (Steps.refl _) (argsL := []) (rest := [(.int (0 : Int32))]) (lenOf own_pd_0 rfl) rfl (by show 2 * 0 + _ ≤ _; exact Nat.le_of_eq rfl) (hb hby own_d5_55) (fun _ _ => ⟨rfl, eh389, (by decide : 0 + 0 ≤ _), (by decide : 0 + 0 ≤ _)⟩)
  dsimp only [Pt.U, Pt.locs, Pt.cells, Pt.slots] at X392 l392 y392 z392 st392 hQ392
  subst l392 y392 z392
  obtain ⟨rfl, N392q, eh392⟩ := hQ392
  have N392 := Fr.app N389 N392q
  refine own_go (B := T392.setTop (mkF m 60 #[.val (.ref a), .val (.ref u), .val (.ref w_EL), .val .null, .val (.int (0 : Int32))] [(.int (1 : Int32)), (.int (0 : Int32))])) (fun t k => st392.trans k) ?_
  refine own_go (B := T392.setTop (mkF m 84 #[.val (.ref a), .val (.ref u), .val (.ref w_EL), .val .null, .val (.int (0 : Int32))] [])) (fun t k => XS.icmpYes X392.here hx rfl (pc0 := 60) (pc' := 84) rfl (hb hby own_d5_60) rfl (tlt (by decide : (0 : Int32) < (1 : Int32))).1 (by decide) (by decide) k) ?_
  refine own_go (B := T392.setTop (mkF m 85 #[.val (.ref a), .val (.ref u), .val (.ref w_EL), .val .null, .val (.int (0 : Int32))] [(.ref a)])) (fun t k => XS.aloadN X392.here hx rfl (hb hby own_d5_84) rfl rfl k) ?_
  refine own_go (B := T392.setTop (mkF m 86 #[.val (.ref a), .val (.ref u), .val (.ref w_EL), .val .null, .val (.int (0 : Int32))] [(.ref u), (.ref a)])) (fun t k => XS.aloadN X392.here hx rfl (hb hby own_d5_85) rfl rfl k) ?_
  obtain ⟨_, _, ⟨T394, L394, k394, n394⟩, -, X394, ⟨Lc394, hQ394, l394, y394, z394⟩, st394⟩ := Jvm.LawKit.callS X392 hx (y := (⟨"java/util/List", "copyOf", "(Ljava/util/Collection;)Ljava/util/List;"⟩ : MethodName)) hown (mvT hZ (hw _ (List.mem_of_getElem? (i := 125) rfl))) (mvT hZ (hw _ (List.mem_of_getElem? (i := 126) rfl))) (mvT hZ (hw _ (List.mem_of_getElem? (i := 127) rfl))) (mvT hZ (hw _ (List.mem_of_getElem? (i := 128) rfl))) (by decide) (backOf (W := 1) (own_rm_coL l Z a0 hw [] u w_NONE w_DEF w_EMP w_EL w_ELA mir kd ke h0 n0 O0 HS E7 F8) hZ (hw _ (List.mem_of_getElem? (i := 128) rfl)) (hw _ (List.mem_of_getElem? (i := 127) rfl)) (by decide) (by decide)) (g := (mkF m 86 #[.val (.ref a), .val (.ref u), .val (.ref w_EL), .val .null, .val (.int (0 : Int32))] [(.ref u), (.ref a)])) rfl (by rw [hml]; rfl) (argsL := [(.ref u)]) (rest := [(.ref a)]) (lenOf own_pd_17 rfl) rfl (by show 2 * 0 + _ ≤ _; exact Nat.le_of_eq rfl) (hb hby own_d5_86) (fun _ _ => ⟨rfl, eh392, (by decide : 0 + 0 ≤ _), (by decide : 0 + 0 ≤ _)⟩)
  dsimp only [Pt.U, Pt.locs, Pt.cells, Pt.slots] at X394 l394 y394 z394 st394 hQ394
  subst l394 y394 z394
  obtain ⟨rfl, N394q, eh394⟩ := hQ394
  have N394 := Fr.app N392 N394q
  refine own_go (B := T394.setTop (mkF m 89 #[.val (.ref a), .val (.ref u), .val (.ref w_EL), .val .null, .val (.int (0 : Int32))] [(.ref u), (.ref a)])) (fun t k => st394 _ k) ?_
  obtain ⟨T395, h395, X395, e395, W395, st395⟩ := putF X394 hx hZ hown (host := "") (Or.inl (hw _ (List.mem_of_getElem? (i := 209) rfl))) Via.refl eh394 F2 E1 (Or.inr ⟨(hw _ (List.mem_of_getElem? (i := 210) rfl)), rfl, hnm⟩) (hw _ (List.mem_of_getElem? (i := 107) rfl)) (ty := (.object "java/util/List")) (by decide) rfl rfl (g := (mkF m 89 #[.val (.ref a), .val (.ref u), .val (.ref w_EL), .val .null, .val (.int (0 : Int32))] [(.ref u), (.ref a)])) rfl rfl (hb hby own_d5_89)
  have Fw395 := F2.same W395
  have N395 := Fr.snoc X395 N394 G6
  have O395 := O0.wr W395 G6
  have K395 := K0.wr W395 (Or.inl (by simp))
  refine own_go (B := T395.setTop (mkF m 92 #[.val (.ref a), .val (.ref u), .val (.ref w_EL), .val .null, .val (.int (0 : Int32))] [])) (fun t k => st395 _ k) ?_
  refine own_go (B := T395.setTop (mkF m 93 #[.val (.ref a), .val (.ref u), .val (.ref w_EL), .val .null, .val (.int (0 : Int32))] [(.ref a)])) (fun t k => XS.aloadN X395.here hx rfl (hb hby own_d5_92) rfl rfl k) ?_
  refine own_go (B := T395.setTop (mkF m 94 #[.val (.ref a), .val (.ref u), .val (.ref w_EL), .val .null, .val (.int (0 : Int32))] [(.ref w_EL), (.ref a)])) (fun t k => XS.aloadN X395.here hx rfl (hb hby own_d5_93) rfl rfl k) ?_
  obtain ⟨_, _, ⟨T396, L396, k396, n396⟩, -, X396, ⟨Lc396, hQ396, l396, y396, z396⟩, st396⟩ := Jvm.LawKit.callS X395 hx (y := (⟨"java/util/List", "copyOf", "(Ljava/util/Collection;)Ljava/util/List;"⟩ : MethodName)) hown (mvT hZ (hw _ (List.mem_of_getElem? (i := 125) rfl))) (mvT hZ (hw _ (List.mem_of_getElem? (i := 126) rfl))) (mvT hZ (hw _ (List.mem_of_getElem? (i := 127) rfl))) (mvT hZ (hw _ (List.mem_of_getElem? (i := 128) rfl))) (by decide) (backOf (W := 1) (own_rm_coN l Z a0 hw [] w_NONE w_DEF w_EMP w_EL w_ELA mir kd ke h395 n0 O395 HS) hZ (hw _ (List.mem_of_getElem? (i := 128) rfl)) (hw _ (List.mem_of_getElem? (i := 127) rfl)) (by decide) (by decide)) (g := (mkF m 94 #[.val (.ref a), .val (.ref u), .val (.ref w_EL), .val .null, .val (.int (0 : Int32))] [(.ref w_EL), (.ref a)])) rfl (by rw [hml]; rfl) (argsL := [(.ref w_EL)]) (rest := [(.ref a)]) (lenOf own_pd_17 rfl) rfl (by show 2 * 0 + _ ≤ _; exact Nat.le_of_eq rfl) (hb hby own_d5_94) (fun _ _ => ⟨rfl, e395, (by decide : 0 + 0 ≤ _), (by decide : 0 + 0 ≤ _)⟩)
  dsimp only [Pt.U, Pt.locs, Pt.cells, Pt.slots] at X396 l396 y396 z396 st396 hQ396
  subst l396 y396 z396
  obtain ⟨rfl, N396q, eh396⟩ := hQ396
  have N396 := Fr.app N395 N396q
  refine own_go (B := T396.setTop (mkF m 97 #[.val (.ref a), .val (.ref u), .val (.ref w_EL), .val .null, .val (.int (0 : Int32))] [(.ref w_EL), (.ref a)])) (fun t k => st396 _ k) ?_
  have f397 := (F3.other W395 (Or.inr (slot_ne (Or.inr (hw _ (List.mem_of_getElem? (i := 216) rfl))) (Or.inr (hw _ (List.mem_of_getElem? (i := 210) rfl))) (by decide) (t := (.object "java/util/List")) (t' := (.object "java/util/List")) (by decide) (by decide))))
  have f398 := (E1.wr W395)
  obtain ⟨T399, h399, X399, e399, W399, st399⟩ := putF X396 hx hZ hown (host := "") (Or.inl (hw _ (List.mem_of_getElem? (i := 215) rfl))) Via.refl eh396 f397 f398 (Or.inr ⟨(hw _ (List.mem_of_getElem? (i := 216) rfl)), rfl, hnm⟩) (hw _ (List.mem_of_getElem? (i := 107) rfl)) (ty := (.object "java/util/List")) (by decide) rfl rfl (g := (mkF m 97 #[.val (.ref a), .val (.ref u), .val (.ref w_EL), .val .null, .val (.int (0 : Int32))] [(.ref w_EL), (.ref a)])) rfl rfl (hb hby own_d5_97)
  have Fw399 := f397.same W399
  have N399 := Fr.snoc X399 N396 G6
  have O399 := O395.wr W399 G6
  have K399 := K395.wr W399 (Or.inl (by simp))
  refine own_go (B := T399.setTop (mkF m 100 #[.val (.ref a), .val (.ref u), .val (.ref w_EL), .val .null, .val (.int (0 : Int32))] [])) (fun t k => st399 _ k) ?_
  refine own_go (B := T399.setTop (mkF m 101 #[.val (.ref a), .val (.ref u), .val (.ref w_EL), .val .null, .val (.int (0 : Int32))] [(.ref a)])) (fun t k => XS.aloadN X399.here hx rfl (hb hby own_d5_100) rfl rfl k) ?_
  refine own_go (B := T399.setTop (mkF m 102 #[.val (.ref a), .val (.ref u), .val (.ref w_EL), .val .null, .val (.int (0 : Int32))] [.null, (.ref a)])) (fun t k => XS.aloadN X399.here hx rfl (hb hby own_d5_101) rfl rfl k) ?_
  have f400 := ((F4.other W395 (Or.inr (slot_ne (Or.inr (hw _ (List.mem_of_getElem? (i := 218) rfl))) (Or.inr (hw _ (List.mem_of_getElem? (i := 210) rfl))) (by decide) (t := (.object "com/example/invariant/invariant/Model$Occurrence")) (t' := (.object "java/util/List")) (by decide) (by decide)))).other W399 (Or.inr (slot_ne (Or.inr (hw _ (List.mem_of_getElem? (i := 218) rfl))) (Or.inr (hw _ (List.mem_of_getElem? (i := 216) rfl))) (by decide) (t := (.object "com/example/invariant/invariant/Model$Occurrence")) (t' := (.object "java/util/List")) (by decide) (by decide))))
  have f401 := (f398.wr W399)
  obtain ⟨T402, h402, X402, e402, W402, st402⟩ := putF X399 hx hZ hown (host := "") (Or.inl (hw _ (List.mem_of_getElem? (i := 217) rfl))) Via.refl e399 f400 f401 (Or.inr ⟨(hw _ (List.mem_of_getElem? (i := 218) rfl)), rfl, hnm⟩) (hw _ (List.mem_of_getElem? (i := 107) rfl)) (ty := (.object "com/example/invariant/invariant/Model$Occurrence")) (by decide) rfl rfl (g := (mkF m 102 #[.val (.ref a), .val (.ref u), .val (.ref w_EL), .val .null, .val (.int (0 : Int32))] [.null, (.ref a)])) rfl rfl (hb hby own_d5_102)
  have Fw402 := f400.same W402
  have N402 := Fr.snoc X402 N399 G6
  have O402 := O399.wr W402 G6
  have K402 := K399.wr W402 (Or.inl (by simp))
  refine own_go (B := T402.setTop (mkF m 105 #[.val (.ref a), .val (.ref u), .val (.ref w_EL), .val .null, .val (.int (0 : Int32))] [])) (fun t k => st402 _ k) ?_
  refine own_go (B := T402.setTop (mkF m 106 #[.val (.ref a), .val (.ref u), .val (.ref w_EL), .val .null, .val (.int (0 : Int32))] [(.ref a)])) (fun t k => XS.aloadN X402.here hx rfl (hb hby own_d5_105) rfl rfl k) ?_
  refine own_go (B := T402.setTop (mkF m 108 #[.val (.ref a), .val (.ref u), .val (.ref w_EL), .val .null, .val (.int (0 : Int32))] [(.int (0 : Int32)), (.ref a)])) (fun t k => XS.iload X402.here hx rfl (hb hby own_d5_106) rfl k) ?_
  have f403 := (((F5.other W395 (Or.inr (slot_ne (Or.inr (hw _ (List.mem_of_getElem? (i := 220) rfl))) (Or.inr (hw _ (List.mem_of_getElem? (i := 210) rfl))) (by decide) (t := .int) (t' := (.object "java/util/List")) (by decide) (by decide)))).other W399 (Or.inr (slot_ne (Or.inr (hw _ (List.mem_of_getElem? (i := 220) rfl))) (Or.inr (hw _ (List.mem_of_getElem? (i := 216) rfl))) (by decide) (t := .int) (t' := (.object "java/util/List")) (by decide) (by decide)))).other W402 (Or.inr (slot_ne (Or.inr (hw _ (List.mem_of_getElem? (i := 220) rfl))) (Or.inr (hw _ (List.mem_of_getElem? (i := 218) rfl))) (by decide) (t := .int) (t' := (.object "com/example/invariant/invariant/Model$Occurrence")) (by decide) (by decide))))
  have f404 := (f401.wr W402)
  obtain ⟨T405, h405, X405, e405, W405, st405⟩ := putF X402 hx hZ hown (host := "") (Or.inl (hw _ (List.mem_of_getElem? (i := 219) rfl))) Via.refl e402 f403 f404 (Or.inr ⟨(hw _ (List.mem_of_getElem? (i := 220) rfl)), rfl, hnm⟩) (hw _ (List.mem_of_getElem? (i := 107) rfl)) (ty := .int) (by decide) rfl rfl (g := (mkF m 108 #[.val (.ref a), .val (.ref u), .val (.ref w_EL), .val .null, .val (.int (0 : Int32))] [(.int (0 : Int32)), (.ref a)])) rfl rfl (hb hby own_d5_108)
  have Fw405 := f403.same W405
  have N405 := Fr.snoc X405 N402 G6
  have O405 := O402.wr W405 G6
  have K405 := K402.wr W405 (Or.inl (by simp))
  refine own_go (B := T405.setTop (mkF m 111 #[.val (.ref a), .val (.ref u), .val (.ref w_EL), .val .null, .val (.int (0 : Int32))] [])) (fun t k => st405 _ k) ?_
  obtain ⟨fs, hr, hrun, hended, hW, hsame⟩ := X405.leave (v := none) (fun _ => rfl)
  have f407 := (f404.wr W405)
  have f408 := (((Fw395.other W399 (Or.inr (slot_ne (Or.inr (hw _ (List.mem_of_getElem? (i := 210) rfl))) (Or.inr (hw _ (List.mem_of_getElem? (i := 216) rfl))) (by decide) (t := (.object "java/util/List")) (t' := (.object "java/util/List")) (by decide) (by decide)))).other W402 (Or.inr (slot_ne (Or.inr (hw _ (List.mem_of_getElem? (i := 210) rfl))) (Or.inr (hw _ (List.mem_of_getElem? (i := 218) rfl))) (by decide) (t := (.object "java/util/List")) (t' := (.object "com/example/invariant/invariant/Model$Occurrence")) (by decide) (by decide)))).other W405 (Or.inr (slot_ne (Or.inr (hw _ (List.mem_of_getElem? (i := 210) rfl))) (Or.inr (hw _ (List.mem_of_getElem? (i := 220) rfl))) (by decide) (t := (.object "java/util/List")) (t' := .int) (by decide) (by decide))))
  have f409 := ((Fw399.other W402 (Or.inr (slot_ne (Or.inr (hw _ (List.mem_of_getElem? (i := 216) rfl))) (Or.inr (hw _ (List.mem_of_getElem? (i := 218) rfl))) (by decide) (t := (.object "java/util/List")) (t' := (.object "com/example/invariant/invariant/Model$Occurrence")) (by decide) (by decide)))).other W405 (Or.inr (slot_ne (Or.inr (hw _ (List.mem_of_getElem? (i := 216) rfl))) (Or.inr (hw _ (List.mem_of_getElem? (i := 220) rfl))) (by decide) (t := (.object "java/util/List")) (t' := .int) (by decide) (by decide))))
  have f410 := ((((E7.wr W395).wr W399).wr W402).wr W405)
  have f411 := ((((F8.other W395 (Or.inl (ne_exa f410 f407 (by decide)))).other W399 (Or.inl (ne_exa f410 f407 (by decide)))).other W402 (Or.inl (ne_exa f410 f407 (by decide)))).other W405 (Or.inl (ne_exa f410 f407 (by decide))))
  refine ⟨_, _, X405.returnOut hx Bd.returns (hb hby own_d5_111) hr, hK _ _ ⟨hrun, hended, _, _, rfl, ?_, ⟨_, rfl⟩, hW, hsame.mono (by decide) (by decide)⟩⟩
  show own_Q_tL Z a u w_NONE w_DEF w_EMP w_EL w_ELA mir kd ke h0 n0 _ T405.heap _
  rw [e405]
  exact ⟨rfl, N405, K405, f407, f408, f409, Fw405, f410, f411⟩
theorem own_d4_0 : decode prog_114_method_1_code 0 = .ok (.aload_n 0, 1) := by decide +kernel
theorem own_d4_1 : decode prog_114_method_1_code 1 = .ok (.aload_n 1, 1) := by decide +kernel
theorem own_d4_2 : decode prog_114_method_1_code 2 = .ok (.aload_n 2, 1) := by decide +kernel
theorem own_d4_3 : decode prog_114_method_1_code 3 = .ok (.aconst_null, 1) := by decide +kernel
theorem own_d4_4 : decode prog_114_method_1_code 4 = .ok (.iconst (-1), 1) := by decide +kernel
theorem own_d4_5 : decode prog_114_method_1_code 5 = .ok (.invokespecial 3, 3) := by decide +kernel
theorem own_pd_18 : parseMethodDescriptor "(Ljava/util/List;Ljava/util/List;Lcom/example/invariant/invariant/Model$Occurrence;I)V" = some ⟨[(.object "java/util/List"), (.object "java/util/List"), (.object "com/example/invariant/invariant/Model$Occurrence"), .int], none⟩ := by decide +kernel
theorem own_d4_8 : decode prog_114_method_1_code 8 = .ok (.return_, 1) := by decide +kernel
theorem own_ef_t2 (m : MethodId) (x0 : Addr) (x1 : Addr) (x2 : Addr)  : entryFrame m #[(.ref x0), (.ref x1), (.ref x2)] 3 = mkF m 0 #[.val (.ref x0), .val (.ref x1), .val (.ref x2)] [] := by first | (simp [entryFrame, mkF, argsToLocals, Value.category]; done) | rfl
def own_Q_t2 (Z : State) (a u y b st : Addr) (kb : ClassId) (w_NONE w_DEF w_EMP w_EL w_ELA mir : Addr) (kd ke : ClassId) (h0 : Heap) (n0 : Nat) (v : Option Value) (h : Heap) (L : List Loc) : Prop := ∃ r : Addr, v = none ∧ Fr n0 L ∧ Keep h0 h [a] ∧ h0.size ≤ r ∧ Exa Z h a "com/example/invariant/invariant/Trace" ∧ Fld Z h a "com/example/invariant/invariant/Trace" "states" "Ljava/util/List;" (.ref r) ∧ Fld Z h a "com/example/invariant/invariant/Trace" "steps" "Ljava/util/List;" (.ref w_EL) ∧ Fld Z h a "com/example/invariant/invariant/Trace" "loop" "I" (.int (-1 : Int32)) ∧ Exa Z h r "java/util/ImmutableCollections$List12" ∧ Fld Z h r "java/util/ImmutableCollections$List12" "e1" "Ljava/lang/Object;" (.ref w_EMP)
set_option maxRecDepth 65536 in
set_option maxHeartbeats 40000000 in
theorem own_rm_t2 (l : Launch) (Z : State) (a0 : Array Value) (hw : ∀ d ∈ tables_1, d.before a0 Z = true) (ws : List Jvm.Cond) (a u y b st : Addr) (kb : ClassId) (w_NONE w_DEF w_EMP w_EL w_ELA mir : Addr) (kd ke : ClassId) (h0 : Heap) (n0 : Nat) (O0 : Old Z n0 h0) (HS : own_St Z w_NONE w_DEF w_EMP w_EL w_ELA mir kd ke) (E1 : Exa Z h0 a "com/example/invariant/invariant/Trace") (F2 : Fld Z h0 a "com/example/invariant/invariant/Trace" "states" "Ljava/util/List;" .null) (F3 : Fld Z h0 a "com/example/invariant/invariant/Trace" "steps" "Ljava/util/List;" .null) (F4 : Fld Z h0 a "com/example/invariant/invariant/Trace" "loopStep" "Lcom/example/invariant/invariant/Model$Occurrence;" .null) (F5 : Fld Z h0 a "com/example/invariant/invariant/Trace" "loop" "I" (.int (0 : Int32))) (G6 : n0 ≤ a) (E7 : Exa Z h0 u "java/util/ArrayList") (F8 : Fld Z h0 u "java/util/AbstractList" "modCount" "I" (.int (1 : Int32))) (F9 : Fld Z h0 u "java/util/ArrayList" "elementData" "[Ljava/lang/Object;" (.ref b)) (F10 : Fld Z h0 u "java/util/ArrayList" "size" "I" (.int (1 : Int32))) (E11 : Exa Z h0 b "[Ljava/lang/Object;") (A12 : Arv Z h0 b kb (.object "java/lang/Object") (10 : Int32) [(.ref st), .null, .null, .null, .null, .null, .null, .null, .null, .null] .null) (E13 : Exa Z h0 st "com/example/invariant/invariant/State") (E14 : Exa Z h0 y "java/util/ArrayList") (F15 : Fld Z h0 y "java/util/AbstractList" "modCount" "I" (.int (0 : Int32))) (F16 : Fld Z h0 y "java/util/ArrayList" "elementData" "[Ljava/lang/Object;" (.ref w_DEF)) (F17 : Fld Z h0 y "java/util/ArrayList" "size" "I" (.int (0 : Int32))) :
    MetFree l (⟨"com/example/invariant/invariant/Trace", "<init>", "(Ljava/util/List;Ljava/util/List;)V"⟩ : MethodName) (head1 (Jvm.Cond.code (⟨"com/example/invariant/invariant/Trace", "<init>", "(Ljava/util/List;Ljava/util/List;)V"⟩ : MethodName) prog_114_method_1_code 3 none :: ws) ({ frames := 9, cells := 2, slots := 3, locals := 142 } : Room)) (fun ar9 U => ar9 = #[(.ref a), (.ref u), (.ref y)] ∧ Z.Warmed39 U.vm ∧ U.heap = h0) (fun _ _ _ _ _ => True) (fun _ U o U' => ∃ v L, o = .returned v ∧ own_Q_t2 Z a u y b st kb w_NONE w_DEF w_EMP w_EL w_ELA mir kd ke h0 n0 v U'.heap L ∧ FrameEnd U o U' L ({ frames := 9, cells := 2, slots := 3, locals := 142 } : Room).cells ({ frames := 9, cells := 2, slots := 3, locals := 142 } : Room).slots) := by
  refine MetFree.of_bodySF (plainFor_of_name own_pn_13) hisR ?_
  intro p e s m args below meth c s₁ Bd hml0 hP hK0
  obtain ⟨rfl, hZ, hh⟩ := hP
  have hx := Bd.exec
  have hby := Bd.bytes
  have hml : c.maxLocals = 3 := hml0
  have hown : s.vm.findClass "com/example/invariant/invariant/Trace" = some m.cls := findClass_of_methodNamed Bd.named
  have hnm := (name_of_methodNamed Bd.named Bd.method).1
  have X0 : Stand p l e ({ frames := 9, cells := 2, slots := 3, locals := 142 } : Room) s m #[(.ref a), (.ref u), (.ref y)] below meth c s₁ [] 0 0 := Stand.of_body Bd
  have e0 : s₁.heap = h0 := by rw [← hh, Bd.state]; rfl
  have N0 := Fr.nil n0
  have K0 := Keep.refl h0 [a]
  refine own_open fun K hK => ?_
  refine own_go (B := s₁.setTop (mkF m 0 #[.val (.ref a), .val (.ref u), .val (.ref y)] [])) (fun t k => castTop (own_ef_t2 m a u y) k) ?_
  refine own_go (B := s₁.setTop (mkF m 1 #[.val (.ref a), .val (.ref u), .val (.ref y)] [(.ref a)])) (fun t k => XS.aloadN X0.here hx rfl (hb hby own_d4_0) rfl rfl k) ?_
  refine own_go (B := s₁.setTop (mkF m 2 #[.val (.ref a), .val (.ref u), .val (.ref y)] [(.ref u), (.ref a)])) (fun t k => XS.aloadN X0.here hx rfl (hb hby own_d4_1) rfl rfl k) ?_
  refine own_go (B := s₁.setTop (mkF m 3 #[.val (.ref a), .val (.ref u), .val (.ref y)] [(.ref y), (.ref u), (.ref a)])) (fun t k => XS.aloadN X0.here hx rfl (hb hby own_d4_2) rfl rfl k) ?_
  refine own_go (B := s₁.setTop (mkF m 4 #[.val (.ref a), .val (.ref u), .val (.ref y)] [.null, (.ref y), (.ref u), (.ref a)])) (fun t k => XS.aconstNull X0.here hx rfl (hb hby own_d4_3) k) ?_
  refine own_go (B := s₁.setTop (mkF m 5 #[.val (.ref a), .val (.ref u), .val (.ref y)] [(.int (-1 : Int32)), .null, (.ref y), (.ref u), (.ref a)])) (fun t k => XS.iconst X0.here hx rfl (hb hby own_d4_4) k) ?_
  have lt_a_412 := E1.lt
  have lt_u_412 := E7.lt
  have lt_b_412 := E11.lt
  have lt_st_412 := E13.lt
  have lt_y_412 := E14.lt
  obtain ⟨_, _, ⟨T413, L413, k413, n413⟩, -, X413, ⟨Lc413, hQ413, l413, y413, z413⟩, st413⟩ := X0.specialBack hx (y := (⟨"com/example/invariant/invariant/Trace", "<init>", "(Ljava/util/List;Ljava/util/List;Lcom/example/invariant/invariant/Model$Occurrence;I)V"⟩ : MethodName)) rfl hown (mvT hZ (hw _ (List.mem_of_getElem? (i := 112) rfl))) (mvT hZ (hw _ (List.mem_of_getElem? (i := 113) rfl))) (mvT hZ (hw _ (List.mem_of_getElem? (i := 114) rfl))) (by decide) (backOf (W := 0) (own_rm_tA l Z a0 hw [] a u y b st kb w_NONE w_DEF w_EMP w_EL w_ELA mir kd ke h0 n0 O0 HS E1 F2 F3 F4 F5 G6 E7 F8 F9 F10 E11 A12 E13 E14 F15 F16 F17) hZ (hw _ (List.mem_of_getElem? (i := 114) rfl)) (hw _ (List.mem_of_getElem? (i := 108) rfl)) (by decide) (by decide)) (g := (mkF m 5 #[.val (.ref a), .val (.ref u), .val (.ref y)] [(.int (-1 : Int32)), .null, (.ref y), (.ref u), (.ref a)])) rfl (by rw [hml]; rfl) (Steps.refl _) (a := a) (argsL := [(.ref u), (.ref y), .null, (.int (-1 : Int32))]) (rest := []) (lenOf own_pd_18 rfl) rfl (by show 2 * 0 + _ ≤ _; exact Nat.le_of_eq rfl) (hb hby own_d4_5) (fun _ _ => ⟨rfl, e0, (by decide : 0 + 2 ≤ _), (by decide : 0 + 3 ≤ _)⟩)
  dsimp only [Pt.U, Pt.locs, Pt.cells, Pt.slots] at X413 l413 y413 z413 st413 hQ413
  subst l413 y413 z413
  obtain ⟨r_413, rfl, N413q, Kc413, Q413_0, Q413_1, Q413_2, Q413_3, Q413_4, Q413_5, Q413_6⟩ := hQ413
  have O413 := O0.keep Kc413 (allS G6 all0)
  have K413 := K0.trans Kc413 (allS (Or.inl (by simp)) all0)
  have N413 := Fr.app N0 N413q
  refine own_go (B := T413.setTop (mkF m 8 #[.val (.ref a), .val (.ref u), .val (.ref y)] [])) (fun t k => st413.trans k) ?_
  have g_r_413 : n0 ≤ r_413 := Nat.le_trans (own_n0 O0) Q413_0
  have sz_r_413 : h0.size ≤ r_413 := Nat.le_trans K0.1 Q413_0
  obtain ⟨fs, hr, hrun, hended, hW, hsame⟩ := X413.leave (v := none) (fun _ => rfl)
  refine ⟨_, _, X413.returnOut hx Bd.returns (hb hby own_d4_8) hr, hK _ _ ⟨hrun, hended, _, _, rfl, ?_, ⟨_, rfl⟩, hW, hsame.mono (by decide) (by decide)⟩⟩
  show own_Q_t2 Z a u y b st kb w_NONE w_DEF w_EMP w_EL w_ELA mir kd ke h0 n0 _ T413.heap _
  exact ⟨r_413, rfl, N413, K413, sz_r_413, Q413_1, Q413_2, Q413_3, Q413_4, Q413_5, Q413_6⟩
theorem own_d8_0 : decode prog_114_method_8_code 0 = .ok (.aload_n 0, 1) := by decide +kernel
theorem own_d8_1 : decode prog_114_method_8_code 1 = .ok (.getfield 43, 3) := by decide +kernel
theorem own_d8_4 : decode prog_114_method_8_code 4 = .ok (.iconst (-1), 1) := by decide +kernel
theorem own_d8_5 : decode prog_114_method_8_code 5 = .ok (.if_icmp .eq 7, 3) := by decide +kernel
theorem own_d8_12 : decode prog_114_method_8_code 12 = .ok (.iconst 0, 1) := by decide +kernel
theorem own_d8_13 : decode prog_114_method_8_code 13 = .ok (.ireturn, 1) := by decide +kernel
theorem own_ef_loops0 (m : MethodId) (x0 : Addr)  : entryFrame m #[(.ref x0)] 1 = mkF m 0 #[.val (.ref x0)] [] := by first | (simp [entryFrame, mkF, argsToLocals, Value.category]; done) | rfl
def own_Q_loops0 (Z : State) (a : Addr) (h0 : Heap) (n0 : Nat) (v : Option Value) (h : Heap) (L : List Loc) : Prop := v = some (.int (0 : Int32)) ∧ Fr n0 L ∧ h = h0
set_option maxRecDepth 65536 in
set_option maxHeartbeats 40000000 in
theorem own_rm_loops0 (l : Launch) (Z : State) (a0 : Array Value) (hw : ∀ d ∈ tables_1, d.before a0 Z = true) (ws : List Jvm.Cond) (a : Addr) (h0 : Heap) (n0 : Nat) (O0 : Old Z n0 h0) (F0 : Fld Z h0 a "com/example/invariant/invariant/Trace" "loop" "I" (.int (-1 : Int32))) :
    MetFree l (⟨"com/example/invariant/invariant/Trace", "loops", "()Z"⟩ : MethodName) (head1 (Jvm.Cond.code (⟨"com/example/invariant/invariant/Trace", "loops", "()Z"⟩ : MethodName) prog_114_method_8_code 1 (some .boolean) :: ws) ({ frames := 0, cells := 0, slots := 0, locals := 0 } : Room)) (fun ar9 U => ar9 = #[(.ref a)] ∧ Z.Warmed39 U.vm ∧ U.heap = h0) (fun _ _ _ _ _ => True) (fun _ U o U' => ∃ v L, o = .returned v ∧ own_Q_loops0 Z a h0 n0 v U'.heap L ∧ FrameEnd U o U' L ({ frames := 0, cells := 0, slots := 0, locals := 0 } : Room).cells ({ frames := 0, cells := 0, slots := 0, locals := 0 } : Room).slots) := by
  refine MetFree.of_bodySF (plainFor_of_name own_pn_13) hisR ?_
  intro p e s m args below meth c s₁ Bd hml0 hP hK0
  obtain ⟨rfl, hZ, hh⟩ := hP
  have hx := Bd.exec
  have hby := Bd.bytes
  have hml : c.maxLocals = 1 := hml0
  have hown : s.vm.findClass "com/example/invariant/invariant/Trace" = some m.cls := findClass_of_methodNamed Bd.named
  have hnm := (name_of_methodNamed Bd.named Bd.method).1
  have X0 : Stand p l e ({ frames := 0, cells := 0, slots := 0, locals := 0 } : Room) s m #[(.ref a)] below meth c s₁ [] 0 0 := Stand.of_body Bd
  have e0 : s₁.heap = h0 := by rw [← hh, Bd.state]; rfl
  have N0 := Fr.nil n0
  refine own_open fun K hK => ?_
  refine own_go (B := s₁.setTop (mkF m 0 #[.val (.ref a)] [])) (fun t k => castTop (own_ef_loops0 m a) k) ?_
  refine own_go (B := s₁.setTop (mkF m 1 #[.val (.ref a)] [(.ref a)])) (fun t k => XS.aloadN X0.here hx rfl (hb hby own_d8_0) rfl rfl k) ?_
  obtain ⟨T415, X415, e415, st415⟩ := getF X0 hx hZ hown (host := "") (Or.inl (hw _ (List.mem_of_getElem? (i := 219) rfl))) Via.refl e0 F0 (g := (mkF m 1 #[.val (.ref a)] [(.ref a)])) rfl rfl (hb hby own_d8_1)
  refine own_go (B := T415.setTop (mkF m 4 #[.val (.ref a)] [(.int (-1 : Int32))])) (fun t k => st415 _ k) ?_
  refine own_go (B := T415.setTop (mkF m 5 #[.val (.ref a)] [(.int (-1 : Int32)), (.int (-1 : Int32))])) (fun t k => XS.iconst X415.here hx rfl (hb hby own_d8_4) k) ?_
  refine own_go (B := T415.setTop (mkF m 12 #[.val (.ref a)] [])) (fun t k => XS.icmpYes X415.here hx rfl (pc0 := 5) (pc' := 12) rfl (hb hby own_d8_5) rfl (teq (by decide : (-1 : Int32) = (-1 : Int32))).1 (by decide) (by decide) k) ?_
  refine own_go (B := T415.setTop (mkF m 13 #[.val (.ref a)] [(.int (0 : Int32))])) (fun t k => XS.iconst X415.here hx rfl (hb hby own_d8_12) k) ?_
  obtain ⟨fs, hr, hrun, hended, hW, hsame⟩ := X415.leave (v := some (.int (0 : Int32))) (fun h => by rw [Bd.returns] at h; cases h)
  refine ⟨_, _, retN X415 hx (t := .boolean) Bd.returns (by simp) (hb hby own_d8_13) hr, hK _ _ ⟨hrun, hended, _, _, rfl, ?_, ⟨_, rfl⟩, hW, hsame.mono (by decide) (by decide)⟩⟩
  show own_Q_loops0 Z a h0 n0 _ T415.heap _
  rw [e415]
  exact ⟨rfl, N0, rfl⟩
theorem own_d8_8 : decode prog_114_method_8_code 8 = .ok (.iconst 1, 1) := by decide +kernel
theorem own_d8_9 : decode prog_114_method_8_code 9 = .ok (.goto 4, 3) := by decide +kernel
theorem own_ef_loops1 (m : MethodId) (x0 : Addr)  : entryFrame m #[(.ref x0)] 1 = mkF m 0 #[.val (.ref x0)] [] := by first | (simp [entryFrame, mkF, argsToLocals, Value.category]; done) | rfl
def own_Q_loops1 (Z : State) (a : Addr) (h0 : Heap) (n0 : Nat) (v : Option Value) (h : Heap) (L : List Loc) : Prop := v = some (.int (1 : Int32)) ∧ Fr n0 L ∧ h = h0
set_option maxRecDepth 65536 in
set_option maxHeartbeats 40000000 in
theorem own_rm_loops1 (l : Launch) (Z : State) (a0 : Array Value) (hw : ∀ d ∈ tables_1, d.before a0 Z = true) (ws : List Jvm.Cond) (a : Addr) (h0 : Heap) (n0 : Nat) (O0 : Old Z n0 h0) (F0 : Fld Z h0 a "com/example/invariant/invariant/Trace" "loop" "I" (.int (0 : Int32))) :
    MetFree l (⟨"com/example/invariant/invariant/Trace", "loops", "()Z"⟩ : MethodName) (head1 (Jvm.Cond.code (⟨"com/example/invariant/invariant/Trace", "loops", "()Z"⟩ : MethodName) prog_114_method_8_code 1 (some .boolean) :: ws) ({ frames := 0, cells := 0, slots := 0, locals := 0 } : Room)) (fun ar9 U => ar9 = #[(.ref a)] ∧ Z.Warmed39 U.vm ∧ U.heap = h0) (fun _ _ _ _ _ => True) (fun _ U o U' => ∃ v L, o = .returned v ∧ own_Q_loops1 Z a h0 n0 v U'.heap L ∧ FrameEnd U o U' L ({ frames := 0, cells := 0, slots := 0, locals := 0 } : Room).cells ({ frames := 0, cells := 0, slots := 0, locals := 0 } : Room).slots) := by
  refine MetFree.of_bodySF (plainFor_of_name own_pn_13) hisR ?_
  intro p e s m args below meth c s₁ Bd hml0 hP hK0
  obtain ⟨rfl, hZ, hh⟩ := hP
  have hx := Bd.exec
  have hby := Bd.bytes
  have hml : c.maxLocals = 1 := hml0
  have hown : s.vm.findClass "com/example/invariant/invariant/Trace" = some m.cls := findClass_of_methodNamed Bd.named
  have hnm := (name_of_methodNamed Bd.named Bd.method).1
  have X0 : Stand p l e ({ frames := 0, cells := 0, slots := 0, locals := 0 } : Room) s m #[(.ref a)] below meth c s₁ [] 0 0 := Stand.of_body Bd
  have e0 : s₁.heap = h0 := by rw [← hh, Bd.state]; rfl
  have N0 := Fr.nil n0
  refine own_open fun K hK => ?_
  refine own_go (B := s₁.setTop (mkF m 0 #[.val (.ref a)] [])) (fun t k => castTop (own_ef_loops1 m a) k) ?_
  refine own_go (B := s₁.setTop (mkF m 1 #[.val (.ref a)] [(.ref a)])) (fun t k => XS.aloadN X0.here hx rfl (hb hby own_d8_0) rfl rfl k) ?_
  obtain ⟨T418, X418, e418, st418⟩ := getF X0 hx hZ hown (host := "") (Or.inl (hw _ (List.mem_of_getElem? (i := 219) rfl))) Via.refl e0 F0 (g := (mkF m 1 #[.val (.ref a)] [(.ref a)])) rfl rfl (hb hby own_d8_1)
  refine own_go (B := T418.setTop (mkF m 4 #[.val (.ref a)] [(.int (0 : Int32))])) (fun t k => st418 _ k) ?_
  refine own_go (B := T418.setTop (mkF m 5 #[.val (.ref a)] [(.int (-1 : Int32)), (.int (0 : Int32))])) (fun t k => XS.iconst X418.here hx rfl (hb hby own_d8_4) k) ?_
  refine own_go (B := T418.setTop (mkF m 8 #[.val (.ref a)] [])) (fun t k => XS.icmpNo X418.here hx rfl (hb hby own_d8_5) rfl (feq (by decide : ¬ ((0 : Int32) = (-1 : Int32)))).1 k) ?_
  refine own_go (B := T418.setTop (mkF m 9 #[.val (.ref a)] [(.int (1 : Int32))])) (fun t k => XS.iconst X418.here hx rfl (hb hby own_d8_8) k) ?_
  refine own_go (B := T418.setTop (mkF m 13 #[.val (.ref a)] [(.int (1 : Int32))])) (fun t k => XS.goto X418.here hx rfl (pc0 := 9) (pc' := 13) rfl (hb hby own_d8_9) (by decide) (by decide) k) ?_
  obtain ⟨fs, hr, hrun, hended, hW, hsame⟩ := X418.leave (v := some (.int (1 : Int32))) (fun h => by rw [Bd.returns] at h; cases h)
  refine ⟨_, _, retN X418 hx (t := .boolean) Bd.returns (by simp) (hb hby own_d8_13) hr, hK _ _ ⟨hrun, hended, _, _, rfl, ?_, ⟨_, rfl⟩, hW, hsame.mono (by decide) (by decide)⟩⟩
  show own_Q_loops1 Z a h0 n0 _ T418.heap _
  rw [e418]
  exact ⟨rfl, N0, rfl⟩
theorem own_d6_0 : decode prog_114_method_10_code 0 = .ok (.aload_n 0, 1) := by decide +kernel
theorem own_d6_1 : decode prog_114_method_10_code 1 = .ok (.invokevirtual 47, 3) := by decide +kernel
theorem own_d6_4 : decode prog_114_method_10_code 4 = .ok (.ifCond .ne 13, 3) := by decide +kernel
theorem own_d6_17 : decode prog_114_method_10_code 17 = .ok (.aload_n 0, 1) := by decide +kernel
theorem own_d6_18 : decode prog_114_method_10_code 18 = .ok (.getfield 43, 3) := by decide +kernel
theorem own_d6_21 : decode prog_114_method_10_code 21 = .ok (.ireturn, 1) := by decide +kernel
theorem own_ef_loop (m : MethodId) (x0 : Addr)  : entryFrame m #[(.ref x0)] 1 = mkF m 0 #[.val (.ref x0)] [] := by first | (simp [entryFrame, mkF, argsToLocals, Value.category]; done) | rfl
def own_Q_loop (Z : State) (a : Addr) (h0 : Heap) (n0 : Nat) (v : Option Value) (h : Heap) (L : List Loc) : Prop := v = some (.int (0 : Int32)) ∧ Fr n0 L ∧ h = h0
set_option maxRecDepth 65536 in
set_option maxHeartbeats 40000000 in
theorem own_rm_loop (l : Launch) (Z : State) (a0 : Array Value) (hw : ∀ d ∈ tables_1, d.before a0 Z = true) (ws : List Jvm.Cond) (a : Addr) (h0 : Heap) (n0 : Nat) (O0 : Old Z n0 h0) (E0 : Exa Z h0 a "com/example/invariant/invariant/Trace") (F1 : Fld Z h0 a "com/example/invariant/invariant/Trace" "loop" "I" (.int (0 : Int32))) :
    MetFree l (⟨"com/example/invariant/invariant/Trace", "loop", "()I"⟩ : MethodName) (head1 (Jvm.Cond.code (⟨"com/example/invariant/invariant/Trace", "loop", "()I"⟩ : MethodName) prog_114_method_10_code 1 (some .int) :: ws) ({ frames := 1, cells := 0, slots := 0, locals := 12 } : Room)) (fun ar9 U => ar9 = #[(.ref a)] ∧ Z.Warmed39 U.vm ∧ U.heap = h0) (fun _ _ _ _ _ => True) (fun _ U o U' => ∃ v L, o = .returned v ∧ own_Q_loop Z a h0 n0 v U'.heap L ∧ FrameEnd U o U' L ({ frames := 1, cells := 0, slots := 0, locals := 12 } : Room).cells ({ frames := 1, cells := 0, slots := 0, locals := 12 } : Room).slots) := by
  refine MetFree.of_bodySF (plainFor_of_name own_pn_13) hisR ?_
  intro p e s m args below meth c s₁ Bd hml0 hP hK0
  obtain ⟨rfl, hZ, hh⟩ := hP
  have hx := Bd.exec
  have hby := Bd.bytes
  have hml : c.maxLocals = 1 := hml0
  have hown : s.vm.findClass "com/example/invariant/invariant/Trace" = some m.cls := findClass_of_methodNamed Bd.named
  have hnm := (name_of_methodNamed Bd.named Bd.method).1
  have X0 : Stand p l e ({ frames := 1, cells := 0, slots := 0, locals := 12 } : Room) s m #[(.ref a)] below meth c s₁ [] 0 0 := Stand.of_body Bd
  have e0 : s₁.heap = h0 := by rw [← hh, Bd.state]; rfl
  have N0 := Fr.nil n0
  refine own_open fun K hK => ?_
  refine own_go (B := s₁.setTop (mkF m 0 #[.val (.ref a)] [])) (fun t k => castTop (own_ef_loop m a) k) ?_
  refine own_go (B := s₁.setTop (mkF m 1 #[.val (.ref a)] [(.ref a)])) (fun t k => XS.aloadN X0.here hx rfl (hb hby own_d6_0) rfl rfl k) ?_
  obtain ⟨cq421, kq421, q421a, q421b, q421c⟩ := isOf hZ e0 E0
  obtain ⟨_, _, ⟨T421, L421, k421, n421⟩, -, X421, ⟨Lc421, hQ421, l421, y421, z421⟩, st421⟩ := X0.virtualBack hx (y := (⟨"com/example/invariant/invariant/Trace", "loops", "()Z"⟩ : MethodName)) (z := (⟨"com/example/invariant/invariant/Trace", "loops", "()Z"⟩ : MethodName)) hown (mvT hZ (hw _ (List.mem_of_getElem? (i := 242) rfl))) (mvT hZ (hw _ (List.mem_of_getElem? (i := 222) rfl))) (notFace_of_selects (args := #[]) (mvT hZ (hw _ (List.mem_of_getElem? (i := 224) rfl)))) (mvT hZ (hw _ (List.mem_of_getElem? (i := 224) rfl))) (mvT hZ (hw _ (List.mem_of_getElem? (i := 223) rfl))) (by decide) (backOf (W := 0) (own_rm_loops1 l Z a0 hw [] a h0 n0 O0 F1) hZ (hw _ (List.mem_of_getElem? (i := 225) rfl)) (hw _ (List.mem_of_getElem? (i := 108) rfl)) (by decide) (by decide)) q421a q421c (g := (mkF m 1 #[.val (.ref a)] [(.ref a)])) rfl (by rw [hml]; rfl) (Steps.refl _) (argsL := []) (rest := []) (lenOf own_pd_14 rfl) rfl (by show 2 * 0 + _ ≤ _; exact Nat.le_of_eq rfl) (hb hby own_d6_1) (fun _ _ => ⟨rfl, e0, (by decide : 0 + 0 ≤ _), (by decide : 0 + 0 ≤ _)⟩)
  dsimp only [Pt.U, Pt.locs, Pt.cells, Pt.slots] at X421 l421 y421 z421 st421 hQ421
  subst l421 y421 z421
  obtain ⟨rfl, N421q, eh421⟩ := hQ421
  have N421 := Fr.app N0 N421q
  refine own_go (B := T421.setTop (mkF m 4 #[.val (.ref a)] [(.int (1 : Int32))])) (fun t k => st421.trans k) ?_
  refine own_go (B := T421.setTop (mkF m 17 #[.val (.ref a)] [])) (fun t k => XS.ifYes X421.here hx rfl (pc0 := 4) (pc' := 17) rfl (hb hby own_d6_4) rfl ((if0 _ _).trans (feq (by decide : ¬ ((1 : Int32) = (0 : Int32)))).2) (by decide) (by decide) k) ?_
  refine own_go (B := T421.setTop (mkF m 18 #[.val (.ref a)] [(.ref a)])) (fun t k => XS.aloadN X421.here hx rfl (hb hby own_d6_17) rfl rfl k) ?_
  obtain ⟨T423, X423, e423, st423⟩ := getF X421 hx hZ hown (host := "") (Or.inl (hw _ (List.mem_of_getElem? (i := 219) rfl))) Via.refl eh421 F1 (g := (mkF m 18 #[.val (.ref a)] [(.ref a)])) rfl rfl (hb hby own_d6_18)
  refine own_go (B := T423.setTop (mkF m 21 #[.val (.ref a)] [(.int (0 : Int32))])) (fun t k => st423 _ k) ?_
  obtain ⟨fs, hr, hrun, hended, hW, hsame⟩ := X423.leave (v := some (.int (0 : Int32))) (fun h => by rw [Bd.returns] at h; cases h)
  refine ⟨_, _, own_retI X423 hx Bd.returns (hb hby own_d6_21) hr, hK _ _ ⟨hrun, hended, _, _, rfl, ?_, ⟨_, rfl⟩, hW, hsame.mono (by decide) (by decide)⟩⟩
  show own_Q_loop Z a h0 n0 _ T423.heap _
  rw [e423]
  exact ⟨rfl, N421, rfl⟩
theorem own_d7_0 : decode prog_114_method_5_code 0 = .ok (.aload_n 0, 1) := by decide +kernel
theorem own_d7_1 : decode prog_114_method_5_code 1 = .ok (.invokevirtual 47, 3) := by decide +kernel
theorem own_d7_4 : decode prog_114_method_5_code 4 = .ok (.ifCond .eq 13, 3) := by decide +kernel
theorem own_d7_17 : decode prog_114_method_5_code 17 = .ok (.aload_n 1, 1) := by decide +kernel
theorem own_d7_18 : decode prog_114_method_5_code 18 = .ok (.ifnonnull 32, 3) := by decide +kernel
theorem own_d7_21 : decode prog_114_method_5_code 21 = .ok (.iload_n 2, 1) := by decide +kernel
theorem own_d7_22 : decode prog_114_method_5_code 22 = .ok (.aload_n 0, 1) := by decide +kernel
theorem own_d7_23 : decode prog_114_method_5_code 23 = .ok (.getfield 32, 3) := by decide +kernel
theorem own_d7_26 : decode prog_114_method_5_code 26 = .ok (.invokeinterface 12 1, 5) := by decide +kernel
theorem own_d7_31 : decode prog_114_method_5_code 31 = .ok (.iconst 1, 1) := by decide +kernel
theorem own_d7_32 : decode prog_114_method_5_code 32 = .ok (.isub, 1) := by decide +kernel
theorem own_d7_33 : decode prog_114_method_5_code 33 = .ok (.if_icmp .eq 17, 3) := by decide +kernel
theorem own_d7_50 : decode prog_114_method_5_code 50 = .ok (.new 1, 3) := by decide +kernel
theorem own_d7_53 : decode prog_114_method_5_code 53 = .ok (.dup, 1) := by decide +kernel
theorem own_d7_54 : decode prog_114_method_5_code 54 = .ok (.aload_n 0, 1) := by decide +kernel
theorem own_d7_55 : decode prog_114_method_5_code 55 = .ok (.getfield 32, 3) := by decide +kernel
theorem own_d7_58 : decode prog_114_method_5_code 58 = .ok (.aload_n 0, 1) := by decide +kernel
theorem own_d7_59 : decode prog_114_method_5_code 59 = .ok (.getfield 36, 3) := by decide +kernel
theorem own_d7_62 : decode prog_114_method_5_code 62 = .ok (.aload_n 1, 1) := by decide +kernel
theorem own_d7_63 : decode prog_114_method_5_code 63 = .ok (.iload_n 2, 1) := by decide +kernel
theorem own_d7_64 : decode prog_114_method_5_code 64 = .ok (.invokespecial 3, 3) := by decide +kernel
theorem own_d7_67 : decode prog_114_method_5_code 67 = .ok (.areturn, 1) := by decide +kernel
theorem own_ef_back (m : MethodId) (x0 : Addr) (x2 : Int32)  : entryFrame m #[(.ref x0), .null, (.int x2)] 3 = mkF m 0 #[.val (.ref x0), .val .null, .val (.int x2)] [] := by first | (simp [entryFrame, mkF, argsToLocals, Value.category]; done) | rfl
def own_Q_back (Z : State) (a u : Addr) (w_NONE w_DEF w_EMP w_EL w_ELA mir : Addr) (kd ke : ClassId) (h0 : Heap) (n0 : Nat) (v : Option Value) (h : Heap) (L : List Loc) : Prop := ∃ r : Addr, v = some (.ref r) ∧ Fr n0 L ∧ Ext h0 h ∧ h0.size ≤ r ∧ Exa Z h r "com/example/invariant/invariant/Trace" ∧ Fld Z h r "com/example/invariant/invariant/Trace" "loop" "I" (.int (0 : Int32))
set_option maxRecDepth 65536 in
set_option maxHeartbeats 40000000 in
theorem own_rm_back (l : Launch) (Z : State) (a0 : Array Value) (hw : ∀ d ∈ tables_1, d.before a0 Z = true) (ws : List Jvm.Cond) (a u : Addr) (w_NONE w_DEF w_EMP w_EL w_ELA mir : Addr) (kd ke : ClassId) (h0 : Heap) (n0 : Nat) (O0 : Old Z n0 h0) (HS : own_St Z w_NONE w_DEF w_EMP w_EL w_ELA mir kd ke) (E1 : Exa Z h0 a "com/example/invariant/invariant/Trace") (F2 : Fld Z h0 a "com/example/invariant/invariant/Trace" "states" "Ljava/util/List;" (.ref u)) (F3 : Fld Z h0 a "com/example/invariant/invariant/Trace" "steps" "Ljava/util/List;" (.ref w_EL)) (F4 : Fld Z h0 a "com/example/invariant/invariant/Trace" "loop" "I" (.int (-1 : Int32))) (E5 : Exa Z h0 u "java/util/ImmutableCollections$List12") (F6 : Fld Z h0 u "java/util/ImmutableCollections$List12" "e1" "Ljava/lang/Object;" (.ref w_EMP)) :
    MetFree l (⟨"com/example/invariant/invariant/Trace", "loopingBack", "(Lcom/example/invariant/invariant/Model$Occurrence;I)Lcom/example/invariant/invariant/Trace;"⟩ : MethodName) (head1 (Jvm.Cond.code (⟨"com/example/invariant/invariant/Trace", "loopingBack", "(Lcom/example/invariant/invariant/Model$Occurrence;I)Lcom/example/invariant/invariant/Trace;"⟩ : MethodName) prog_114_method_5_code 3 (some (.object "com/example/invariant/invariant/Trace")) :: ws) ({ frames := 3, cells := 1, slots := 4, locals := 43 } : Room)) (fun ar9 U => ar9 = #[(.ref a), .null, (.int (0 : Int32))] ∧ Z.Warmed39 U.vm ∧ U.heap = h0) (fun _ _ _ _ _ => True) (fun _ U o U' => ∃ v L, o = .returned v ∧ own_Q_back Z a u w_NONE w_DEF w_EMP w_EL w_ELA mir kd ke h0 n0 v U'.heap L ∧ FrameEnd U o U' L ({ frames := 3, cells := 1, slots := 4, locals := 43 } : Room).cells ({ frames := 3, cells := 1, slots := 4, locals := 43 } : Room).slots) := by
  refine MetFree.of_bodySF (plainFor_of_name own_pn_13) hisR ?_
  intro p e s m args below meth c s₁ Bd hml0 hP hK0
  obtain ⟨rfl, hZ, hh⟩ := hP
  have hx := Bd.exec
  have hby := Bd.bytes
  have hml : c.maxLocals = 3 := hml0
  have hown : s.vm.findClass "com/example/invariant/invariant/Trace" = some m.cls := findClass_of_methodNamed Bd.named
  have hnm := (name_of_methodNamed Bd.named Bd.method).1
  have X0 : Stand p l e ({ frames := 3, cells := 1, slots := 4, locals := 43 } : Room) s m #[(.ref a), .null, (.int (0 : Int32))] below meth c s₁ [] 0 0 := Stand.of_body Bd
  have e0 : s₁.heap = h0 := by rw [← hh, Bd.state]; rfl
  have N0 := Fr.nil n0
  have K0 := Keep.refl h0 []
  refine own_open fun K hK => ?_
  refine own_go (B := s₁.setTop (mkF m 0 #[.val (.ref a), .val .null, .val (.int (0 : Int32))] [])) (fun t k => castTop (own_ef_back m a (0 : Int32)) k) ?_
  refine own_go (B := s₁.setTop (mkF m 1 #[.val (.ref a), .val .null, .val (.int (0 : Int32))] [(.ref a)])) (fun t k => XS.aloadN X0.here hx rfl (hb hby own_d7_0) rfl rfl k) ?_
  obtain ⟨cq425, kq425, q425a, q425b, q425c⟩ := isOf hZ e0 E1
  obtain ⟨_, _, ⟨T425, L425, k425, n425⟩, -, X425, ⟨Lc425, hQ425, l425, y425, z425⟩, st425⟩ := X0.virtualBack hx (y := (⟨"com/example/invariant/invariant/Trace", "loops", "()Z"⟩ : MethodName)) (z := (⟨"com/example/invariant/invariant/Trace", "loops", "()Z"⟩ : MethodName)) hown (mvT hZ (hw _ (List.mem_of_getElem? (i := 242) rfl))) (mvT hZ (hw _ (List.mem_of_getElem? (i := 222) rfl))) (notFace_of_selects (args := #[]) (mvT hZ (hw _ (List.mem_of_getElem? (i := 224) rfl)))) (mvT hZ (hw _ (List.mem_of_getElem? (i := 224) rfl))) (mvT hZ (hw _ (List.mem_of_getElem? (i := 223) rfl))) (by decide) (backOf (W := 0) (own_rm_loops0 l Z a0 hw [] a h0 n0 O0 F4) hZ (hw _ (List.mem_of_getElem? (i := 225) rfl)) (hw _ (List.mem_of_getElem? (i := 108) rfl)) (by decide) (by decide)) q425a q425c (g := (mkF m 1 #[.val (.ref a), .val .null, .val (.int (0 : Int32))] [(.ref a)])) rfl (by rw [hml]; rfl) (Steps.refl _) (argsL := []) (rest := []) (lenOf own_pd_14 rfl) rfl (by show 2 * 0 + _ ≤ _; exact Nat.le_of_eq rfl) (hb hby own_d7_1) (fun _ _ => ⟨rfl, e0, (by decide : 0 + 0 ≤ _), (by decide : 0 + 0 ≤ _)⟩)
  dsimp only [Pt.U, Pt.locs, Pt.cells, Pt.slots] at X425 l425 y425 z425 st425 hQ425
  subst l425 y425 z425
  obtain ⟨rfl, N425q, eh425⟩ := hQ425
  have N425 := Fr.app N0 N425q
  refine own_go (B := T425.setTop (mkF m 4 #[.val (.ref a), .val .null, .val (.int (0 : Int32))] [(.int (0 : Int32))])) (fun t k => st425.trans k) ?_
  refine own_go (B := T425.setTop (mkF m 17 #[.val (.ref a), .val .null, .val (.int (0 : Int32))] [])) (fun t k => XS.ifYes X425.here hx rfl (pc0 := 4) (pc' := 17) rfl (hb hby own_d7_4) rfl ((if0 _ _).trans (teq (by decide : (0 : Int32) = (0 : Int32))).1) (by decide) (by decide) k) ?_
  refine own_go (B := T425.setTop (mkF m 18 #[.val (.ref a), .val .null, .val (.int (0 : Int32))] [.null])) (fun t k => XS.aloadN X425.here hx rfl (hb hby own_d7_17) rfl rfl k) ?_
  refine own_go (B := T425.setTop (mkF m 21 #[.val (.ref a), .val .null, .val (.int (0 : Int32))] [])) (fun t k => XS.ifnonnullNo X425.here hx rfl (hb hby own_d7_18) rfl k) ?_
  refine own_go (B := T425.setTop (mkF m 22 #[.val (.ref a), .val .null, .val (.int (0 : Int32))] [(.int (0 : Int32))])) (fun t k => XS.iloadN X425.here hx rfl (hb hby own_d7_21) rfl k) ?_
  refine own_go (B := T425.setTop (mkF m 23 #[.val (.ref a), .val .null, .val (.int (0 : Int32))] [(.ref a), (.int (0 : Int32))])) (fun t k => XS.aloadN X425.here hx rfl (hb hby own_d7_22) rfl rfl k) ?_
  obtain ⟨T427, X427, e427, st427⟩ := getF X425 hx hZ hown (host := "") (Or.inl (hw _ (List.mem_of_getElem? (i := 209) rfl))) Via.refl eh425 F2 (g := (mkF m 23 #[.val (.ref a), .val .null, .val (.int (0 : Int32))] [(.ref a), (.int (0 : Int32))])) rfl rfl (hb hby own_d7_23)
  refine own_go (B := T427.setTop (mkF m 26 #[.val (.ref a), .val .null, .val (.int (0 : Int32))] [(.ref u), (.int (0 : Int32))])) (fun t k => st427 _ k) ?_
  obtain ⟨cq428, kq428, q428a, q428b, q428c⟩ := isOf hZ e427 E5
  obtain ⟨_, _, ⟨T428, L428, k428, n428⟩, -, X428, ⟨Lc428, hQ428, l428, y428, z428⟩, st428⟩ := X427.interfaceBack hx (xi := (⟨"java/util/List", "size", "()I"⟩ : MethodName)) (y := (⟨"java/util/ImmutableCollections$List12", "size", "()I"⟩ : MethodName)) hown (mvT hZ (hw _ (List.mem_of_getElem? (i := 116) rfl))) (mvT hZ (hw _ (List.mem_of_getElem? (i := 117) rfl))) (mvT hZ (hw _ (List.mem_of_getElem? (i := 118) rfl))) (mvT hZ (hw _ (List.mem_of_getElem? (i := 231) rfl))) (mvT hZ (hw _ (List.mem_of_getElem? (i := 232) rfl))) (mvT hZ (hw _ (List.mem_of_getElem? (i := 233) rfl))) (mvT hZ (hw _ (List.mem_of_getElem? (i := 234) rfl))) (mvT hZ (hw _ (List.mem_of_getElem? (i := 235) rfl))) (by decide) (backOf (W := 1) (own_rm_l12size l Z a0 hw [] u w_NONE w_DEF w_EMP w_EL w_ELA mir kd ke h0 n0 O0 HS E5 F6) hZ (hw _ (List.mem_of_getElem? (i := 236) rfl)) (hw _ (List.mem_of_getElem? (i := 182) rfl)) (by decide) (by decide)) q428a q428b q428c (g := (mkF m 26 #[.val (.ref a), .val .null, .val (.int (0 : Int32))] [(.ref u), (.int (0 : Int32))])) rfl (by rw [hml]; rfl) (Steps.refl _) (argsL := []) (rest := [(.int (0 : Int32))]) (lenOf own_pd_0 rfl) rfl (by show 2 * 0 + _ ≤ _; exact Nat.le_of_eq rfl) (hb hby own_d7_26) (fun _ _ => ⟨rfl, e427, (by decide : 0 + 0 ≤ _), (by decide : 0 + 0 ≤ _)⟩)
  dsimp only [Pt.U, Pt.locs, Pt.cells, Pt.slots] at X428 l428 y428 z428 st428 hQ428
  subst l428 y428 z428
  obtain ⟨rfl, N428q, eh428⟩ := hQ428
  have N428 := Fr.app N425 N428q
  refine own_go (B := T428.setTop (mkF m 31 #[.val (.ref a), .val .null, .val (.int (0 : Int32))] [(.int (1 : Int32)), (.int (0 : Int32))])) (fun t k => st428.trans k) ?_
  refine own_go (B := T428.setTop (mkF m 32 #[.val (.ref a), .val .null, .val (.int (0 : Int32))] [(.int (1 : Int32)), (.int (1 : Int32)), (.int (0 : Int32))])) (fun t k => XS.iconst X428.here hx rfl (hb hby own_d7_31) k) ?_
  refine own_go (B := T428.setTop (mkF m 33 #[.val (.ref a), .val .null, .val (.int (0 : Int32))] [(.int (0 : Int32)), (.int (0 : Int32))])) (fun t k => XS.isub X428.here hx rfl (hb hby own_d7_32) rfl k) ?_
  refine own_go (B := T428.setTop (mkF m 50 #[.val (.ref a), .val .null, .val (.int (0 : Int32))] [])) (fun t k => XS.icmpYes X428.here hx rfl (pc0 := 33) (pc' := 50) rfl (hb hby own_d7_33) rfl (teq (by decide : (0 : Int32) = (0 : Int32))).1 (by decide) (by decide) k) ?_
  obtain ⟨T430, h430, X430, e430, E430, A430, D430, -, st430⟩ := newO X428 hx hZ hown (hw _ (List.mem_of_getElem? (i := 243) rfl)) (hw _ (List.mem_of_getElem? (i := 107) rfl)) (hw _ (List.mem_of_getElem? (i := 108) rfl)) eh428 (g := (mkF m 50 #[.val (.ref a), .val .null, .val (.int (0 : Int32))] [])) rfl (hb hby own_d7_50) (by decide) (by decide)
  obtain ⟨b430, g430⟩ : ∃ z, z = h0.size := ⟨_, rfl⟩
  rw [← g430] at A430 D430 st430
  have lt_a_430 := E1.lt
  have lt_u_430 := E5.lt
  have g_b430 : n0 ≤ b430 := Nat.le_trans (own_n0 O0) (Nat.le_of_eq g430.symm)
  have O430 := O0.ext E430
  have sz_b430 : h0.size ≤ b430 := Nat.le_trans K0.1 (Nat.le_of_eq g430.symm)
  have K430 := K0.ext E430
  have F430_210 : Fld Z h430 b430 "com/example/invariant/invariant/Trace" "states" "Ljava/util/List;" .null := D430 (Or.inr (hw _ (List.mem_of_getElem? (i := 210) rfl))) (ty := (.object "java/util/List")) (by decide)
  have F430_216 : Fld Z h430 b430 "com/example/invariant/invariant/Trace" "steps" "Ljava/util/List;" .null := D430 (Or.inr (hw _ (List.mem_of_getElem? (i := 216) rfl))) (ty := (.object "java/util/List")) (by decide)
  have F430_218 : Fld Z h430 b430 "com/example/invariant/invariant/Trace" "loopStep" "Lcom/example/invariant/invariant/Model$Occurrence;" .null := D430 (Or.inr (hw _ (List.mem_of_getElem? (i := 218) rfl))) (ty := (.object "com/example/invariant/invariant/Model$Occurrence")) (by decide)
  have F430_220 : Fld Z h430 b430 "com/example/invariant/invariant/Trace" "loop" "I" (.int (0 : Int32)) := D430 (Or.inr (hw _ (List.mem_of_getElem? (i := 220) rfl))) (ty := .int) (by decide)
  refine own_go (B := T430.setTop (mkF m 53 #[.val (.ref a), .val .null, .val (.int (0 : Int32))] [(.ref b430)])) (fun t k => st430 _ k) ?_
  refine own_go (B := T430.setTop (mkF m 54 #[.val (.ref a), .val .null, .val (.int (0 : Int32))] [(.ref b430), (.ref b430)])) (fun t k => XS.dup X430.here hx rfl (hb hby own_d7_53) rfl rfl k) ?_
  refine own_go (B := T430.setTop (mkF m 55 #[.val (.ref a), .val .null, .val (.int (0 : Int32))] [(.ref a), (.ref b430), (.ref b430)])) (fun t k => XS.aloadN X430.here hx rfl (hb hby own_d7_54) rfl rfl k) ?_
  have f431 := (F2.ext E430)
  obtain ⟨T432, X432, e432, st432⟩ := getF X430 hx hZ hown (host := "") (Or.inl (hw _ (List.mem_of_getElem? (i := 209) rfl))) Via.refl e430 f431 (g := (mkF m 55 #[.val (.ref a), .val .null, .val (.int (0 : Int32))] [(.ref a), (.ref b430), (.ref b430)])) rfl rfl (hb hby own_d7_55)
  refine own_go (B := T432.setTop (mkF m 58 #[.val (.ref a), .val .null, .val (.int (0 : Int32))] [(.ref u), (.ref b430), (.ref b430)])) (fun t k => st432 _ k) ?_
  refine own_go (B := T432.setTop (mkF m 59 #[.val (.ref a), .val .null, .val (.int (0 : Int32))] [(.ref a), (.ref u), (.ref b430), (.ref b430)])) (fun t k => XS.aloadN X432.here hx rfl (hb hby own_d7_58) rfl rfl k) ?_
  have f433 := (F3.ext E430)
  obtain ⟨T434, X434, e434, st434⟩ := getF X432 hx hZ hown (host := "") (Or.inl (hw _ (List.mem_of_getElem? (i := 215) rfl))) Via.refl e432 f433 (g := (mkF m 59 #[.val (.ref a), .val .null, .val (.int (0 : Int32))] [(.ref a), (.ref u), (.ref b430), (.ref b430)])) rfl rfl (hb hby own_d7_59)
  refine own_go (B := T434.setTop (mkF m 62 #[.val (.ref a), .val .null, .val (.int (0 : Int32))] [(.ref w_EL), (.ref u), (.ref b430), (.ref b430)])) (fun t k => st434 _ k) ?_
  refine own_go (B := T434.setTop (mkF m 63 #[.val (.ref a), .val .null, .val (.int (0 : Int32))] [.null, (.ref w_EL), (.ref u), (.ref b430), (.ref b430)])) (fun t k => XS.aloadN X434.here hx rfl (hb hby own_d7_62) rfl rfl k) ?_
  refine own_go (B := T434.setTop (mkF m 64 #[.val (.ref a), .val .null, .val (.int (0 : Int32))] [(.int (0 : Int32)), .null, (.ref w_EL), (.ref u), (.ref b430), (.ref b430)])) (fun t k => XS.iloadN X434.here hx rfl (hb hby own_d7_63) rfl k) ?_
  have f435 := (E5.ext E430)
  have f436 := (F6.ext E430)
  have f438 := (E1.ext E430)
  have lt_a_437 := f438.lt
  have lt_u_437 := f435.lt
  have lt_b430_437 := A430.lt
  obtain ⟨_, _, ⟨T439, L439, k439, n439⟩, -, X439, ⟨Lc439, hQ439, l439, y439, z439⟩, st439⟩ := X434.specialBack hx (y := (⟨"com/example/invariant/invariant/Trace", "<init>", "(Ljava/util/List;Ljava/util/List;Lcom/example/invariant/invariant/Model$Occurrence;I)V"⟩ : MethodName)) rfl hown (mvT hZ (hw _ (List.mem_of_getElem? (i := 112) rfl))) (mvT hZ (hw _ (List.mem_of_getElem? (i := 113) rfl))) (mvT hZ (hw _ (List.mem_of_getElem? (i := 114) rfl))) (by decide) (backOf (W := 1) (own_rm_tL l Z a0 hw [] b430 u w_NONE w_DEF w_EMP w_EL w_ELA mir kd ke h430 n0 O430 HS A430 F430_210 F430_216 F430_218 F430_220 g_b430 f435 f436) hZ (hw _ (List.mem_of_getElem? (i := 114) rfl)) (hw _ (List.mem_of_getElem? (i := 108) rfl)) (by decide) (by decide)) (g := (mkF m 64 #[.val (.ref a), .val .null, .val (.int (0 : Int32))] [(.int (0 : Int32)), .null, (.ref w_EL), (.ref u), (.ref b430), (.ref b430)])) rfl (by rw [hml]; rfl) (Steps.refl _) (a := b430) (argsL := [(.ref u), (.ref w_EL), .null, (.int (0 : Int32))]) (rest := [(.ref b430)]) (lenOf own_pd_18 rfl) rfl (by show 2 * 0 + _ ≤ _; exact Nat.le_of_eq rfl) (hb hby own_d7_64) (fun _ _ => ⟨rfl, e434, (by decide : 1 + 0 ≤ _), (by decide : 4 + 0 ≤ _)⟩)
  dsimp only [Pt.U, Pt.locs, Pt.cells, Pt.slots] at X439 l439 y439 z439 st439 hQ439
  subst l439 y439 z439
  obtain ⟨rfl, N439q, Kc439, Q439_0, Q439_1, Q439_2, Q439_3, Q439_4, Q439_5⟩ := hQ439
  have O439 := O430.keep Kc439 (allS g_b430 all0)
  have K439 := K430.trans Kc439 (allS (Or.inr sz_b430) all0)
  have N439 := Fr.app N428 N439q
  refine own_go (B := T439.setTop (mkF m 67 #[.val (.ref a), .val .null, .val (.int (0 : Int32))] [(.ref b430)])) (fun t k => st439.trans k) ?_
  obtain ⟨fs, hr, hrun, hended, hW, hsame⟩ := X439.leave (v := some (.ref b430)) (fun h => by rw [Bd.returns] at h; cases h)
  have Ex441 : Ext h0 T439.heap := ⟨K439.1, fun x c q => K439.2.1 x c q nin0⟩
  refine ⟨_, _, own_retA X439 hx Bd.returns rfl rfl (hb hby own_d7_67) hr, hK _ _ ⟨hrun, hended, _, _, rfl, ?_, ⟨_, rfl⟩, hW, hsame.mono (by decide) (by decide)⟩⟩
  show own_Q_back Z a u w_NONE w_DEF w_EMP w_EL w_ELA mir kd ke h0 n0 _ T439.heap _
  exact ⟨b430, rfl, N439, Ex441, sz_b430, Q439_0, Q439_3⟩
theorem own_d9_0 : decode prog_114_method_4_code 0 = .ok (.aload_n 0, 1) := by decide +kernel
theorem own_d9_1 : decode prog_114_method_4_code 1 = .ok (.aconst_null, 1) := by decide +kernel
theorem own_d9_2 : decode prog_114_method_4_code 2 = .ok (.aload_n 0, 1) := by decide +kernel
theorem own_d9_3 : decode prog_114_method_4_code 3 = .ok (.getfield 32, 3) := by decide +kernel
theorem own_d9_6 : decode prog_114_method_4_code 6 = .ok (.invokeinterface 12 1, 5) := by decide +kernel
theorem own_d9_11 : decode prog_114_method_4_code 11 = .ok (.iconst 1, 1) := by decide +kernel
theorem own_d9_12 : decode prog_114_method_4_code 12 = .ok (.isub, 1) := by decide +kernel
theorem own_d9_13 : decode prog_114_method_4_code 13 = .ok (.invokevirtual 74, 3) := by decide +kernel
theorem own_pd_19 : parseMethodDescriptor "(Lcom/example/invariant/invariant/Model$Occurrence;I)Lcom/example/invariant/invariant/Trace;" = some ⟨[(.object "com/example/invariant/invariant/Model$Occurrence"), .int], some (.object "com/example/invariant/invariant/Trace")⟩ := by decide +kernel
theorem own_d9_16 : decode prog_114_method_4_code 16 = .ok (.areturn, 1) := by decide +kernel
theorem own_ef_stut (m : MethodId) (x0 : Addr)  : entryFrame m #[(.ref x0)] 1 = mkF m 0 #[.val (.ref x0)] [] := by first | (simp [entryFrame, mkF, argsToLocals, Value.category]; done) | rfl
def own_Q_stut (Z : State) (a u : Addr) (w_NONE w_DEF w_EMP w_EL w_ELA mir : Addr) (kd ke : ClassId) (h0 : Heap) (n0 : Nat) (v : Option Value) (h : Heap) (L : List Loc) : Prop := ∃ r : Addr, v = some (.ref r) ∧ Fr n0 L ∧ Ext h0 h ∧ h0.size ≤ r ∧ Exa Z h r "com/example/invariant/invariant/Trace" ∧ Fld Z h r "com/example/invariant/invariant/Trace" "loop" "I" (.int (0 : Int32))
set_option maxRecDepth 65536 in
set_option maxHeartbeats 40000000 in
theorem own_rm_stut (l : Launch) (Z : State) (a0 : Array Value) (hw : ∀ d ∈ tables_1, d.before a0 Z = true) (ws : List Jvm.Cond) (a u : Addr) (w_NONE w_DEF w_EMP w_EL w_ELA mir : Addr) (kd ke : ClassId) (h0 : Heap) (n0 : Nat) (O0 : Old Z n0 h0) (HS : own_St Z w_NONE w_DEF w_EMP w_EL w_ELA mir kd ke) (E1 : Exa Z h0 a "com/example/invariant/invariant/Trace") (F2 : Fld Z h0 a "com/example/invariant/invariant/Trace" "states" "Ljava/util/List;" (.ref u)) (F3 : Fld Z h0 a "com/example/invariant/invariant/Trace" "steps" "Ljava/util/List;" (.ref w_EL)) (F4 : Fld Z h0 a "com/example/invariant/invariant/Trace" "loop" "I" (.int (-1 : Int32))) (E5 : Exa Z h0 u "java/util/ImmutableCollections$List12") (F6 : Fld Z h0 u "java/util/ImmutableCollections$List12" "e1" "Ljava/lang/Object;" (.ref w_EMP)) :
    MetFree l (⟨"com/example/invariant/invariant/Trace", "stuttering", "()Lcom/example/invariant/invariant/Trace;"⟩ : MethodName) (head1 (Jvm.Cond.code (⟨"com/example/invariant/invariant/Trace", "stuttering", "()Lcom/example/invariant/invariant/Trace;"⟩ : MethodName) prog_114_method_4_code 1 (some (.object "com/example/invariant/invariant/Trace")) :: ws) ({ frames := 4, cells := 1, slots := 4, locals := 57 } : Room)) (fun ar9 U => ar9 = #[(.ref a)] ∧ Z.Warmed39 U.vm ∧ U.heap = h0) (fun _ _ _ _ _ => True) (fun _ U o U' => ∃ v L, o = .returned v ∧ own_Q_stut Z a u w_NONE w_DEF w_EMP w_EL w_ELA mir kd ke h0 n0 v U'.heap L ∧ FrameEnd U o U' L ({ frames := 4, cells := 1, slots := 4, locals := 57 } : Room).cells ({ frames := 4, cells := 1, slots := 4, locals := 57 } : Room).slots) := by
  refine MetFree.of_bodySF (plainFor_of_name own_pn_13) hisR ?_
  intro p e s m args below meth c s₁ Bd hml0 hP hK0
  obtain ⟨rfl, hZ, hh⟩ := hP
  have hx := Bd.exec
  have hby := Bd.bytes
  have hml : c.maxLocals = 1 := hml0
  have hown : s.vm.findClass "com/example/invariant/invariant/Trace" = some m.cls := findClass_of_methodNamed Bd.named
  have hnm := (name_of_methodNamed Bd.named Bd.method).1
  have X0 : Stand p l e ({ frames := 4, cells := 1, slots := 4, locals := 57 } : Room) s m #[(.ref a)] below meth c s₁ [] 0 0 := Stand.of_body Bd
  have e0 : s₁.heap = h0 := by rw [← hh, Bd.state]; rfl
  have N0 := Fr.nil n0
  have K0 := Keep.refl h0 []
  refine own_open fun K hK => ?_
  refine own_go (B := s₁.setTop (mkF m 0 #[.val (.ref a)] [])) (fun t k => castTop (own_ef_stut m a) k) ?_
  refine own_go (B := s₁.setTop (mkF m 1 #[.val (.ref a)] [(.ref a)])) (fun t k => XS.aloadN X0.here hx rfl (hb hby own_d9_0) rfl rfl k) ?_
  refine own_go (B := s₁.setTop (mkF m 2 #[.val (.ref a)] [.null, (.ref a)])) (fun t k => XS.aconstNull X0.here hx rfl (hb hby own_d9_1) k) ?_
  refine own_go (B := s₁.setTop (mkF m 3 #[.val (.ref a)] [(.ref a), .null, (.ref a)])) (fun t k => XS.aloadN X0.here hx rfl (hb hby own_d9_2) rfl rfl k) ?_
  obtain ⟨T442, X442, e442, st442⟩ := getF X0 hx hZ hown (host := "") (Or.inl (hw _ (List.mem_of_getElem? (i := 209) rfl))) Via.refl e0 F2 (g := (mkF m 3 #[.val (.ref a)] [(.ref a), .null, (.ref a)])) rfl rfl (hb hby own_d9_3)
  refine own_go (B := T442.setTop (mkF m 6 #[.val (.ref a)] [(.ref u), .null, (.ref a)])) (fun t k => st442 _ k) ?_
  obtain ⟨cq443, kq443, q443a, q443b, q443c⟩ := isOf hZ e442 E5
  obtain ⟨_, _, ⟨T443, L443, k443, n443⟩, -, X443, ⟨Lc443, hQ443, l443, y443, z443⟩, st443⟩ := X442.interfaceBack hx (xi := (⟨"java/util/List", "size", "()I"⟩ : MethodName)) (y := (⟨"java/util/ImmutableCollections$List12", "size", "()I"⟩ : MethodName)) hown (mvT hZ (hw _ (List.mem_of_getElem? (i := 116) rfl))) (mvT hZ (hw _ (List.mem_of_getElem? (i := 117) rfl))) (mvT hZ (hw _ (List.mem_of_getElem? (i := 118) rfl))) (mvT hZ (hw _ (List.mem_of_getElem? (i := 231) rfl))) (mvT hZ (hw _ (List.mem_of_getElem? (i := 232) rfl))) (mvT hZ (hw _ (List.mem_of_getElem? (i := 233) rfl))) (mvT hZ (hw _ (List.mem_of_getElem? (i := 234) rfl))) (mvT hZ (hw _ (List.mem_of_getElem? (i := 235) rfl))) (by decide) (backOf (W := 2) (own_rm_l12size l Z a0 hw [] u w_NONE w_DEF w_EMP w_EL w_ELA mir kd ke h0 n0 O0 HS E5 F6) hZ (hw _ (List.mem_of_getElem? (i := 236) rfl)) (hw _ (List.mem_of_getElem? (i := 182) rfl)) (by decide) (by decide)) q443a q443b q443c (g := (mkF m 6 #[.val (.ref a)] [(.ref u), .null, (.ref a)])) rfl (by rw [hml]; rfl) (Steps.refl _) (argsL := []) (rest := [.null, (.ref a)]) (lenOf own_pd_0 rfl) rfl (by show 2 * 0 + _ ≤ _; exact Nat.le_of_eq rfl) (hb hby own_d9_6) (fun _ _ => ⟨rfl, e442, (by decide : 0 + 0 ≤ _), (by decide : 0 + 0 ≤ _)⟩)
  dsimp only [Pt.U, Pt.locs, Pt.cells, Pt.slots] at X443 l443 y443 z443 st443 hQ443
  subst l443 y443 z443
  obtain ⟨rfl, N443q, eh443⟩ := hQ443
  have N443 := Fr.app N0 N443q
  refine own_go (B := T443.setTop (mkF m 11 #[.val (.ref a)] [(.int (1 : Int32)), .null, (.ref a)])) (fun t k => st443.trans k) ?_
  refine own_go (B := T443.setTop (mkF m 12 #[.val (.ref a)] [(.int (1 : Int32)), (.int (1 : Int32)), .null, (.ref a)])) (fun t k => XS.iconst X443.here hx rfl (hb hby own_d9_11) k) ?_
  refine own_go (B := T443.setTop (mkF m 13 #[.val (.ref a)] [(.int (0 : Int32)), .null, (.ref a)])) (fun t k => XS.isub X443.here hx rfl (hb hby own_d9_12) rfl k) ?_
  have lt_a_444 := E1.lt
  have lt_u_444 := E5.lt
  obtain ⟨cq445, kq445, q445a, q445b, q445c⟩ := isOf hZ eh443 E1
  obtain ⟨_, _, ⟨T445, L445, k445, n445⟩, -, X445, ⟨Lc445, hQ445, l445, y445, z445⟩, st445⟩ := X443.virtualBack hx (y := (⟨"com/example/invariant/invariant/Trace", "loopingBack", "(Lcom/example/invariant/invariant/Model$Occurrence;I)Lcom/example/invariant/invariant/Trace;"⟩ : MethodName)) (z := (⟨"com/example/invariant/invariant/Trace", "loopingBack", "(Lcom/example/invariant/invariant/Model$Occurrence;I)Lcom/example/invariant/invariant/Trace;"⟩ : MethodName)) hown (mvT hZ (hw _ (List.mem_of_getElem? (i := 237) rfl))) (mvT hZ (hw _ (List.mem_of_getElem? (i := 238) rfl))) (notFace_of_selects (args := #[]) (mvT hZ (hw _ (List.mem_of_getElem? (i := 240) rfl)))) (mvT hZ (hw _ (List.mem_of_getElem? (i := 240) rfl))) (mvT hZ (hw _ (List.mem_of_getElem? (i := 239) rfl))) (by decide) (backOf (W := 0) (own_rm_back l Z a0 hw [] a u w_NONE w_DEF w_EMP w_EL w_ELA mir kd ke h0 n0 O0 HS E1 F2 F3 F4 E5 F6) hZ (hw _ (List.mem_of_getElem? (i := 241) rfl)) (hw _ (List.mem_of_getElem? (i := 108) rfl)) (by decide) (by decide)) q445a q445c (g := (mkF m 13 #[.val (.ref a)] [(.int (0 : Int32)), .null, (.ref a)])) rfl (by rw [hml]; rfl) (Steps.refl _) (argsL := [.null, (.int (0 : Int32))]) (rest := []) (lenOf own_pd_19 rfl) rfl (by show 2 * 0 + _ ≤ _; exact Nat.le_of_eq rfl) (hb hby own_d9_13) (fun _ _ => ⟨rfl, eh443, (by decide : 0 + 1 ≤ _), (by decide : 0 + 4 ≤ _)⟩)
  dsimp only [Pt.U, Pt.locs, Pt.cells, Pt.slots] at X445 l445 y445 z445 st445 hQ445
  subst l445 y445 z445
  obtain ⟨r_445, rfl, N445q, Kc445, Q445_0, Q445_1, Q445_2⟩ := hQ445
  have E445 := Kc445
  have O445 := O0.ext E445
  have K445 := K0.ext E445
  have N445 := Fr.app N443 N445q
  refine own_go (B := T445.setTop (mkF m 16 #[.val (.ref a)] [(.ref r_445)])) (fun t k => st445.trans k) ?_
  have g_r_445 : n0 ≤ r_445 := Nat.le_trans (own_n0 O0) Q445_0
  have sz_r_445 : h0.size ≤ r_445 := Nat.le_trans K0.1 Q445_0
  obtain ⟨fs, hr, hrun, hended, hW, hsame⟩ := X445.leave (v := some (.ref r_445)) (fun h => by rw [Bd.returns] at h; cases h)
  have Ex447 : Ext h0 T445.heap := ⟨K445.1, fun x c q => K445.2.1 x c q nin0⟩
  refine ⟨_, _, own_retA X445 hx Bd.returns rfl rfl (hb hby own_d9_16) hr, hK _ _ ⟨hrun, hended, _, _, rfl, ?_, ⟨_, rfl⟩, hW, hsame.mono (by decide) (by decide)⟩⟩
  show own_Q_stut Z a u w_NONE w_DEF w_EMP w_EL w_ELA mir kd ke h0 n0 _ T445.heap _
  exact ⟨r_445, rfl, N445, Ex447, sz_r_445, Q445_1, Q445_2⟩
theorem own_pd_20 : parseMethodDescriptor "(ILcom/example/invariant/invariant/Configuration;)Lcom/example/invariant/invariant/State;" = some ⟨[.int, (.object "com/example/invariant/invariant/Configuration")], some (.object "com/example/invariant/invariant/State")⟩ := by decide +kernel
theorem own_pd_21 : parseMethodDescriptor "(Ljava/lang/Object;)Z" = some ⟨[(.object "java/lang/Object")], some .boolean⟩ := by decide +kernel
theorem own_pd_22 : parseMethodDescriptor "(Ljava/util/List;Ljava/util/List;)V" = some ⟨[(.object "java/util/List"), (.object "java/util/List")], none⟩ := by decide +kernel
theorem own_pd_23 : parseMethodDescriptor "()Lcom/example/invariant/invariant/Trace;" = some ⟨[], some (.object "com/example/invariant/invariant/Trace")⟩ := by decide +kernel
theorem own_pn_14 : plainName "com/example/invariant/invariant/TraceLoopsPinLaw" = true := by first | (simp [plainName, overriddenIn]; done) | decide +kernel
theorem own_ef_law (m : MethodId) (x0 : Int32) (x1 : Int32)  : entryFrame m #[(.int x0), (.int x1)] maxLocals = mkF m 0 #[.val (.int x0), .val (.int x1), .unset, .unset, .unset, .unset, .unset, .unset] [] := by first | (simp [entryFrame, mkF, argsToLocals, Value.category, maxLocals]; done) | rfl
def own_Q_law (Z : State) (p1 : Int32) (p2 : Int32) (w_NONE w_DEF w_EMP w_EL w_ELA mir : Addr) (kd ke : ClassId) (h0 : Heap) (n0 : Nat) (v : Option Value) (h : Heap) (L : List Loc) : Prop := v = some (.int 1) ∧ Fr n0 L
set_option maxRecDepth 65536 in
set_option maxHeartbeats 40000000 in
theorem own_rm_law (l : Launch) (Z : State) (a0 : Array Value) (hw : ∀ d ∈ tables_1, d.before a0 Z = true) (ws : List Jvm.Cond) (p1 : Int32) (p2 : Int32) (w_NONE w_DEF w_EMP w_EL w_ELA mir : Addr) (kd ke : ClassId) (h0 : Heap) (n0 : Nat) (O0 : Old Z n0 h0) (HS : own_St Z w_NONE w_DEF w_EMP w_EL w_ELA mir kd ke) :
    MetFree l x (head1 (Jvm.Cond.code x code maxLocals ret :: ws) room_1) (fun ar9 U => ar9 = #[(.int p1), (.int p2)] ∧ Z.Warmed39 U.vm ∧ U.heap = h0) (fun _ _ _ _ _ => True) (fun _ U o U' => ∃ v L, o = .returned v ∧ own_Q_law Z p1 p2 w_NONE w_DEF w_EMP w_EL w_ELA mir kd ke h0 n0 v U'.heap L ∧ ReturnedEndW U o U' L room_1.cells room_1.slots) := by
  refine MetFree.of_bodySF (plainFor_of_name own_pn_14) hisR ?_
  intro p e s m args below meth c s₁ Bd hml0 hP hK0
  obtain ⟨rfl, hZ, hh⟩ := hP
  have hx := Bd.exec
  have hby := Bd.bytes
  have hml : c.maxLocals = 8 := hml0
  have hown : s.vm.findClass "com/example/invariant/invariant/TraceLoopsPinLaw" = some m.cls := findClass_of_methodNamed Bd.named
  have hnm := (name_of_methodNamed Bd.named Bd.method).1
  have X0 : Stand p l e room_1 (s.setVm s.vm) m #[(.int p1), (.int p2)] below meth c s₁ [] 0 0 := Stand.of_body Bd
  have e0 : s₁.heap = h0 := by rw [← hh, Bd.state]; rfl
  have N0 := Fr.nil n0
  have hS0 : s.Since s.vm h0.size := (State.WarmedH.refl s).since _
  have hk0 : h0.size ≤ h0.size := Nat.le_refl _
  refine own_open fun K hK => ?_
  refine own_go (B := s₁.setTop (mkF m 0 #[.val (.int p1), .val (.int p2), .unset, .unset, .unset, .unset, .unset, .unset] [])) (fun t k => castTop (own_ef_law m p1 p2) k) ?_
  refine own_go (B := s₁.setTop (mkF m 1 #[.val (.int p1), .val (.int p2), .unset, .unset, .unset, .unset, .unset, .unset] [(.int p1)])) (fun t k => XS.iloadN X0.here hx rfl (hb hby at_0) rfl k) ?_
  refine own_go (B := s₁.setTop (mkF m 2 #[.val (.int p1), .val (.int p2), .unset, .unset, .unset, .unset, .unset, .unset] [(.int (3 : Int32)), (.int p1)])) (fun t k => XS.iconst X0.here hx rfl (hb hby at_1) k) ?_
  refine own_go (B := s₁.setTop (mkF m 3 #[.val (.int p1), .val (.int p2), .unset, .unset, .unset, .unset, .unset, .unset] [(.int (p1 &&& (3 : Int32)))])) (fun t k => XS.iand X0.here hx rfl (hb hby at_2) rfl k) ?_
  obtain ⟨T448, X448, e448, st448⟩ := getS2 X0 hx hZ hown (host := "") (Or.inl (hw _ (List.mem_of_getElem? (i := 0) rfl))) Via.refl e0 (HS.1.ext O0.2) (g := (mkF m 3 #[.val (.int p1), .val (.int p2), .unset, .unset, .unset, .unset, .unset, .unset] [(.int (p1 &&& (3 : Int32)))])) rfl (hb hby at_3)
  refine own_go (B := T448.setTop (mkF m 6 #[.val (.int p1), .val (.int p2), .unset, .unset, .unset, .unset, .unset, .unset] [(.ref w_NONE), (.int (p1 &&& (3 : Int32)))])) (fun t k => st448 _ k) ?_
  obtain ⟨_, _, ⟨T450, L450, k450, n450⟩, -, Xr450, hSr450, hgr450, ⟨Lc450, hQ450, l450, y450, z450⟩, st450⟩ := callSS X448 hx (y := (⟨"com/example/invariant/invariant/State", "blank", "(ILcom/example/invariant/invariant/Configuration;)Lcom/example/invariant/invariant/State;"⟩ : MethodName)) hown (mvT hZ (hw _ (List.mem_of_getElem? (i := 3) rfl))) (mvT hZ (hw _ (List.mem_of_getElem? (i := 4) rfl))) (mvT hZ (hw _ (List.mem_of_getElem? (i := 5) rfl))) (mvT hZ (hw _ (List.mem_of_getElem? (i := 6) rfl))) (by decide) (backOfS (W := 0) (own_rm_blank l Z a0 hw [] (p1 &&& (3 : Int32)) w_NONE w_DEF w_EMP w_EL w_ELA mir kd ke h0 n0 O0 HS (own_and3 p1)) hZ (hw _ (List.mem_of_getElem? (i := 6) rfl)) (hw _ (List.mem_of_getElem? (i := 5) rfl)) (by decide) (by decide)) (g := (mkF m 6 #[.val (.int p1), .val (.int p2), .unset, .unset, .unset, .unset, .unset, .unset] [(.ref w_NONE), (.int (p1 &&& (3 : Int32)))])) rfl (by rw [hml]; rfl) (argsL := [(.int (p1 &&& (3 : Int32))), (.ref w_NONE)]) (rest := []) (lenOf own_pd_20 rfl) rfl (by show 2 * 0 + _ ≤ _; exact Nat.le_of_eq rfl) (hb hby at_6) (fun _ _ => ⟨rfl, e448, (by decide : 0 + 4 ≤ _), (by decide : 0 + 62 ≤ _)⟩)
  dsimp only [Pt.U, Pt.locs, Pt.cells, Pt.slots] at Xr450 l450 y450 z450 st450 hQ450 hSr450 hgr450
  obtain ⟨X450, hS450, hZ, hown⟩ := rebS hS0 (by rw [e448]; exact hk0) Xr450 hSr450 hgr450 hZ hown
  subst l450 y450 z450
  obtain ⟨r_450, rfl, N450q, Kc450, Q450_0, Q450_1⟩ := hQ450
  have E450 := Kc450
  have hk451 := Nat.le_trans hk0 E450.1
  have O450 := O0.ext E450
  have N450 := Fr.app N0 N450q
  have hkw450 : T450.heap.size ≤ T450.heap.size := Nat.le_refl _
  refine own_go (B := T450.setTop (mkF m 9 #[.val (.int p1), .val (.int p2), .unset, .unset, .unset, .unset, .unset, .unset] [(.ref r_450)])) (fun t k => st450.trans k) ?_
  have g_r_450 : n0 ≤ r_450 := Nat.le_trans (own_n0 O0) Q450_0
  refine own_go (B := T450.setTop (mkF m 10 #[.val (.int p1), .val (.int p2), .val (.ref r_450), .unset, .unset, .unset, .unset, .unset] [])) (fun t k => XS.astoreN X450.here hx rfl (hb hby at_9) rfl rfl (l' := #[.val (.int p1), .val (.int p2), .val (.ref r_450), .unset, .unset, .unset, .unset, .unset]) rfl k) ?_
  obtain ⟨T452, h452, X452, e452, E452, A452, D452, -, st452⟩ := newO X450 hx hZ hown (hw _ (List.mem_of_getElem? (i := 51) rfl)) (hw _ (List.mem_of_getElem? (i := 52) rfl)) (hw _ (List.mem_of_getElem? (i := 53) rfl)) (rfl : T450.heap = T450.heap) (g := (mkF m 10 #[.val (.int p1), .val (.int p2), .val (.ref r_450), .unset, .unset, .unset, .unset, .unset] [])) rfl (hb hby at_10) (by decide) (by decide)
  obtain ⟨b452, g452⟩ : ∃ z, z = T450.heap.size := ⟨_, rfl⟩
  rw [← g452] at A452 D452 st452
  have lt_r_450_452 := Q450_1.lt
  have g_b452 : n0 ≤ b452 := Nat.le_trans (own_n0 O450) (Nat.le_of_eq g452.symm)
  have O452 := O450.ext E452
  have hk453 := Nat.le_trans hkw450 E452.1
  have F452_71 : Fld Z h452 b452 "java/util/AbstractList" "modCount" "I" (.int (0 : Int32)) := D452 (Or.inl (hw _ (List.mem_of_getElem? (i := 71) rfl))) (ty := .int) (by decide)
  have F452_74 : Fld Z h452 b452 "java/util/ArrayList" "elementData" "[Ljava/lang/Object;" .null := D452 (Or.inl (hw _ (List.mem_of_getElem? (i := 74) rfl))) (ty := (.array (.object "java/lang/Object"))) (by decide)
  have F452_83 : Fld Z h452 b452 "java/util/ArrayList" "size" "I" (.int (0 : Int32)) := D452 (Or.inl (hw _ (List.mem_of_getElem? (i := 83) rfl))) (ty := .int) (by decide)
  refine own_go (B := T452.setTop (mkF m 13 #[.val (.int p1), .val (.int p2), .val (.ref r_450), .unset, .unset, .unset, .unset, .unset] [(.ref b452)])) (fun t k => st452 _ k) ?_
  refine own_go (B := T452.setTop (mkF m 14 #[.val (.int p1), .val (.int p2), .val (.ref r_450), .unset, .unset, .unset, .unset, .unset] [(.ref b452), (.ref b452)])) (fun t k => XS.dup X452.here hx rfl (hb hby at_13) rfl rfl k) ?_
  have f455 := (Q450_1.ext E452)
  have lt_r_450_454 := f455.lt
  have lt_b452_454 := A452.lt
  obtain ⟨_, _, ⟨T456, L456, k456, n456⟩, -, X456, ⟨Lc456, hQ456, l456, y456, z456⟩, st456⟩ := X452.specialBack hx (y := (⟨"java/util/ArrayList", "<init>", "()V"⟩ : MethodName)) rfl hown (mvT hZ (hw _ (List.mem_of_getElem? (i := 54) rfl))) (mvT hZ (hw _ (List.mem_of_getElem? (i := 55) rfl))) (mvT hZ (hw _ (List.mem_of_getElem? (i := 56) rfl))) (by decide) (backOf (W := 1) (own_rm_al l Z a0 hw [] b452 w_NONE w_DEF w_EMP w_EL w_ELA mir kd ke h452 n0 O452 HS A452 F452_71 F452_74 F452_83 g_b452) hZ (hw _ (List.mem_of_getElem? (i := 56) rfl)) (hw _ (List.mem_of_getElem? (i := 53) rfl)) (by decide) (by decide)) (g := (mkF m 14 #[.val (.int p1), .val (.int p2), .val (.ref r_450), .unset, .unset, .unset, .unset, .unset] [(.ref b452), (.ref b452)])) rfl (by rw [hml]; rfl) (Steps.refl _) (a := b452) (argsL := []) (rest := [(.ref b452)]) (lenOf own_pd_5 rfl) rfl (by show 2 * 0 + _ ≤ _; exact Nat.le_of_eq rfl) (hb hby at_14) (fun _ _ => ⟨rfl, e452, (by decide : 5 + 0 ≤ _), (by decide : 65 + 0 ≤ _)⟩)
  dsimp only [Pt.U, Pt.locs, Pt.cells, Pt.slots] at X456 l456 y456 z456 st456 hQ456
  subst l456 y456 z456
  obtain ⟨rfl, N456q, Kc456, Q456_0, Q456_1, Q456_2, Q456_3⟩ := hQ456
  have O456 := O452.keep Kc456 (allS g_b452 all0)
  have hk457 := Nat.le_trans hk453 Kc456.1
  have N456 := Fr.app N450 N456q
  refine own_go (B := T456.setTop (mkF m 17 #[.val (.int p1), .val (.int p2), .val (.ref r_450), .unset, .unset, .unset, .unset, .unset] [(.ref b452)])) (fun t k => st456.trans k) ?_
  refine own_go (B := T456.setTop (mkF m 18 #[.val (.int p1), .val (.int p2), .val (.ref r_450), .val (.ref b452), .unset, .unset, .unset, .unset] [])) (fun t k => XS.astoreN X456.here hx rfl (hb hby at_17) rfl rfl (l' := #[.val (.int p1), .val (.int p2), .val (.ref r_450), .val (.ref b452), .unset, .unset, .unset, .unset]) rfl k) ?_
  refine own_go (B := T456.setTop (mkF m 19 #[.val (.int p1), .val (.int p2), .val (.ref r_450), .val (.ref b452), .unset, .unset, .unset, .unset] [(.ref b452)])) (fun t k => XS.aloadN X456.here hx rfl (hb hby at_18) rfl rfl k) ?_
  refine own_go (B := T456.setTop (mkF m 20 #[.val (.int p1), .val (.int p2), .val (.ref r_450), .val (.ref b452), .unset, .unset, .unset, .unset] [(.ref r_450), (.ref b452)])) (fun t k => XS.aloadN X456.here hx rfl (hb hby at_19) rfl rfl k) ?_
  have f458 := (f455.keep Kc456)
  have lt_r_450_459 := f458.lt
  have lt_b452_459 := Q456_0.lt
  obtain ⟨cq460, kq460, q460a, q460b, q460c⟩ := isOf hZ (rfl : T456.heap = T456.heap) Q456_0
  obtain ⟨_, _, ⟨T460, L460, k460, n460⟩, -, X460, ⟨Lc460, hQ460, l460, y460, z460⟩, st460⟩ := X456.virtualBack hx (y := (⟨"java/util/ArrayList", "add", "(Ljava/lang/Object;)Z"⟩ : MethodName)) (z := (⟨"java/util/ArrayList", "add", "(Ljava/lang/Object;)Z"⟩ : MethodName)) hown (mvT hZ (hw _ (List.mem_of_getElem? (i := 75) rfl))) (mvT hZ (hw _ (List.mem_of_getElem? (i := 76) rfl))) (notFace_of_selects (args := #[]) (mvT hZ (hw _ (List.mem_of_getElem? (i := 78) rfl)))) (mvT hZ (hw _ (List.mem_of_getElem? (i := 78) rfl))) (mvT hZ (hw _ (List.mem_of_getElem? (i := 77) rfl))) (by decide) (backOf (W := 0) (own_rm_add1 l Z a0 hw [] b452 r_450 w_NONE w_DEF w_EMP w_EL w_ELA mir kd ke T456.heap n0 O456 HS Q456_0 Q456_1 Q456_2 Q456_3 g_b452 f458) hZ (hw _ (List.mem_of_getElem? (i := 79) rfl)) (hw _ (List.mem_of_getElem? (i := 53) rfl)) (by decide) (by decide)) q460a q460c (g := (mkF m 20 #[.val (.int p1), .val (.int p2), .val (.ref r_450), .val (.ref b452), .unset, .unset, .unset, .unset] [(.ref r_450), (.ref b452)])) rfl (by rw [hml]; rfl) (Steps.refl _) (argsL := [(.ref r_450)]) (rest := []) (lenOf own_pd_21 rfl) rfl (by show 2 * 0 + _ ≤ _; exact Nat.le_of_eq rfl) (hb hby at_20) (fun _ _ => ⟨rfl, (rfl : T456.heap = T456.heap), (by decide : 5 + 1 ≤ _), (by decide : 65 + 10 ≤ _)⟩)
  dsimp only [Pt.U, Pt.locs, Pt.cells, Pt.slots] at X460 l460 y460 z460 st460 hQ460
  subst l460 y460 z460
  obtain ⟨r_460, kr_460, rfl, N460q, Kc460, Q460_0, Q460_1, Q460_2, Q460_3, Q460_4, Q460_5, Q460_6⟩ := hQ460
  have O460 := O456.keep Kc460 (allS g_b452 all0)
  have hk461 := Nat.le_trans hk457 Kc460.1
  have N460 := Fr.app N456 N460q
  refine own_go (B := T460.setTop (mkF m 23 #[.val (.int p1), .val (.int p2), .val (.ref r_450), .val (.ref b452), .unset, .unset, .unset, .unset] [(.int (1 : Int32))])) (fun t k => st460.trans k) ?_
  have g_r_460 : n0 ≤ r_460 := Nat.le_trans (own_n0 O456) Q460_0
  refine own_go (B := T460.setTop (mkF m 24 #[.val (.int p1), .val (.int p2), .val (.ref r_450), .val (.ref b452), .unset, .unset, .unset, .unset] [])) (fun t k => XS.pop X460.here hx rfl (hb hby at_23) rfl rfl k) ?_
  obtain ⟨T462, h462, X462, e462, E462, A462, D462, -, st462⟩ := newO X460 hx hZ hown (hw _ (List.mem_of_getElem? (i := 106) rfl)) (hw _ (List.mem_of_getElem? (i := 107) rfl)) (hw _ (List.mem_of_getElem? (i := 108) rfl)) (rfl : T460.heap = T460.heap) (g := (mkF m 24 #[.val (.int p1), .val (.int p2), .val (.ref r_450), .val (.ref b452), .unset, .unset, .unset, .unset] [])) rfl (hb hby at_24) (by decide) (by decide)
  obtain ⟨b462, g462⟩ : ∃ z, z = T460.heap.size := ⟨_, rfl⟩
  rw [← g462] at A462 D462 st462
  have f463 := (f458.keep Kc460)
  have lt_r_450_462 := f463.lt
  have lt_b452_462 := Q460_3.lt
  have lt_r_460_462 := Q460_1.lt
  have g_b462 : n0 ≤ b462 := Nat.le_trans (own_n0 O460) (Nat.le_of_eq g462.symm)
  have O462 := O460.ext E462
  have hk464 := Nat.le_trans hk461 E462.1
  have F462_210 : Fld Z h462 b462 "com/example/invariant/invariant/Trace" "states" "Ljava/util/List;" .null := D462 (Or.inr (hw _ (List.mem_of_getElem? (i := 210) rfl))) (ty := (.object "java/util/List")) (by decide)
  have F462_216 : Fld Z h462 b462 "com/example/invariant/invariant/Trace" "steps" "Ljava/util/List;" .null := D462 (Or.inr (hw _ (List.mem_of_getElem? (i := 216) rfl))) (ty := (.object "java/util/List")) (by decide)
  have F462_218 : Fld Z h462 b462 "com/example/invariant/invariant/Trace" "loopStep" "Lcom/example/invariant/invariant/Model$Occurrence;" .null := D462 (Or.inr (hw _ (List.mem_of_getElem? (i := 218) rfl))) (ty := (.object "com/example/invariant/invariant/Model$Occurrence")) (by decide)
  have F462_220 : Fld Z h462 b462 "com/example/invariant/invariant/Trace" "loop" "I" (.int (0 : Int32)) := D462 (Or.inr (hw _ (List.mem_of_getElem? (i := 220) rfl))) (ty := .int) (by decide)
  refine own_go (B := T462.setTop (mkF m 27 #[.val (.int p1), .val (.int p2), .val (.ref r_450), .val (.ref b452), .unset, .unset, .unset, .unset] [(.ref b462)])) (fun t k => st462 _ k) ?_
  refine own_go (B := T462.setTop (mkF m 28 #[.val (.int p1), .val (.int p2), .val (.ref r_450), .val (.ref b452), .unset, .unset, .unset, .unset] [(.ref b462), (.ref b462)])) (fun t k => XS.dup X462.here hx rfl (hb hby at_27) rfl rfl k) ?_
  refine own_go (B := T462.setTop (mkF m 29 #[.val (.int p1), .val (.int p2), .val (.ref r_450), .val (.ref b452), .unset, .unset, .unset, .unset] [(.ref b452), (.ref b462), (.ref b462)])) (fun t k => XS.aloadN X462.here hx rfl (hb hby at_28) rfl rfl k) ?_
  obtain ⟨T465, h465, X465, e465, E465, A465, D465, -, st465⟩ := newO X462 hx hZ hown (hw _ (List.mem_of_getElem? (i := 51) rfl)) (hw _ (List.mem_of_getElem? (i := 52) rfl)) (hw _ (List.mem_of_getElem? (i := 53) rfl)) e462 (g := (mkF m 29 #[.val (.int p1), .val (.int p2), .val (.ref r_450), .val (.ref b452), .unset, .unset, .unset, .unset] [(.ref b452), (.ref b462), (.ref b462)])) rfl (hb hby at_29) (by decide) (by decide)
  obtain ⟨b465, g465⟩ : ∃ z, z = h462.size := ⟨_, rfl⟩
  rw [← g465] at A465 D465 st465
  have f466 := (f463.ext E462)
  have lt_r_450_465 := f466.lt
  have f467 := (Q460_3.ext E462)
  have lt_b452_465 := f467.lt
  have f468 := (Q460_1.ext E462)
  have lt_r_460_465 := f468.lt
  have lt_b462_465 := A462.lt
  have g_b465 : n0 ≤ b465 := Nat.le_trans (own_n0 O462) (Nat.le_of_eq g465.symm)
  have O465 := O462.ext E465
  have hk469 := Nat.le_trans hk464 E465.1
  have F465_71 : Fld Z h465 b465 "java/util/AbstractList" "modCount" "I" (.int (0 : Int32)) := D465 (Or.inl (hw _ (List.mem_of_getElem? (i := 71) rfl))) (ty := .int) (by decide)
  have F465_74 : Fld Z h465 b465 "java/util/ArrayList" "elementData" "[Ljava/lang/Object;" .null := D465 (Or.inl (hw _ (List.mem_of_getElem? (i := 74) rfl))) (ty := (.array (.object "java/lang/Object"))) (by decide)
  have F465_83 : Fld Z h465 b465 "java/util/ArrayList" "size" "I" (.int (0 : Int32)) := D465 (Or.inl (hw _ (List.mem_of_getElem? (i := 83) rfl))) (ty := .int) (by decide)
  refine own_go (B := T465.setTop (mkF m 32 #[.val (.int p1), .val (.int p2), .val (.ref r_450), .val (.ref b452), .unset, .unset, .unset, .unset] [(.ref b465), (.ref b452), (.ref b462), (.ref b462)])) (fun t k => st465 _ k) ?_
  refine own_go (B := T465.setTop (mkF m 33 #[.val (.int p1), .val (.int p2), .val (.ref r_450), .val (.ref b452), .unset, .unset, .unset, .unset] [(.ref b465), (.ref b465), (.ref b452), (.ref b462), (.ref b462)])) (fun t k => XS.dup X465.here hx rfl (hb hby at_32) rfl rfl k) ?_
  have f471 := (f466.ext E465)
  have lt_r_450_470 := f471.lt
  have f472 := (f467.ext E465)
  have lt_b452_470 := f472.lt
  have f473 := (f468.ext E465)
  have lt_r_460_470 := f473.lt
  have f474 := (A462.ext E465)
  have lt_b462_470 := f474.lt
  have lt_b465_470 := A465.lt
  obtain ⟨_, _, ⟨T475, L475, k475, n475⟩, -, X475, ⟨Lc475, hQ475, l475, y475, z475⟩, st475⟩ := X465.specialBack hx (y := (⟨"java/util/ArrayList", "<init>", "()V"⟩ : MethodName)) rfl hown (mvT hZ (hw _ (List.mem_of_getElem? (i := 54) rfl))) (mvT hZ (hw _ (List.mem_of_getElem? (i := 55) rfl))) (mvT hZ (hw _ (List.mem_of_getElem? (i := 56) rfl))) (by decide) (backOf (W := 4) (own_rm_al l Z a0 hw [] b465 w_NONE w_DEF w_EMP w_EL w_ELA mir kd ke h465 n0 O465 HS A465 F465_71 F465_74 F465_83 g_b465) hZ (hw _ (List.mem_of_getElem? (i := 56) rfl)) (hw _ (List.mem_of_getElem? (i := 53) rfl)) (by decide) (by decide)) (g := (mkF m 33 #[.val (.int p1), .val (.int p2), .val (.ref r_450), .val (.ref b452), .unset, .unset, .unset, .unset] [(.ref b465), (.ref b465), (.ref b452), (.ref b462), (.ref b462)])) rfl (by rw [hml]; rfl) (Steps.refl _) (a := b465) (argsL := []) (rest := [(.ref b465), (.ref b452), (.ref b462), (.ref b462)]) (lenOf own_pd_5 rfl) rfl (by show 2 * 0 + _ ≤ _; exact Nat.le_of_eq rfl) (hb hby at_33) (fun _ _ => ⟨rfl, e465, (by decide : 8 + 0 ≤ _), (by decide : 82 + 0 ≤ _)⟩)
  dsimp only [Pt.U, Pt.locs, Pt.cells, Pt.slots] at X475 l475 y475 z475 st475 hQ475
  subst l475 y475 z475
  obtain ⟨rfl, N475q, Kc475, Q475_0, Q475_1, Q475_2, Q475_3⟩ := hQ475
  have O475 := O465.keep Kc475 (allS g_b465 all0)
  have hk476 := Nat.le_trans hk469 Kc475.1
  have N475 := Fr.app N460 N475q
  refine own_go (B := T475.setTop (mkF m 36 #[.val (.int p1), .val (.int p2), .val (.ref r_450), .val (.ref b452), .unset, .unset, .unset, .unset] [(.ref b465), (.ref b452), (.ref b462), (.ref b462)])) (fun t k => st475.trans k) ?_
  have f477 := (f474.keep Kc475)
  have f478 := ((F462_210.ext E465).keep Kc475 (ninS (Nat.ne_of_lt (Nat.lt_of_lt_of_le lt_b462_465 (Nat.le_of_eq g465.symm))) nin0))
  have f479 := ((F462_216.ext E465).keep Kc475 (ninS (Nat.ne_of_lt (Nat.lt_of_lt_of_le lt_b462_465 (Nat.le_of_eq g465.symm))) nin0))
  have f480 := ((F462_218.ext E465).keep Kc475 (ninS (Nat.ne_of_lt (Nat.lt_of_lt_of_le lt_b462_465 (Nat.le_of_eq g465.symm))) nin0))
  have f481 := ((F462_220.ext E465).keep Kc475 (ninS (Nat.ne_of_lt (Nat.lt_of_lt_of_le lt_b462_465 (Nat.le_of_eq g465.symm))) nin0))
  have f482 := (f472.keep Kc475)
  have f483 := (((Q460_4.ext E462).ext E465).keep Kc475 (ninS (Nat.ne_of_lt (Nat.lt_of_lt_of_le lt_b452_465 (Nat.le_of_eq g465.symm))) nin0))
  have f484 := (((Q460_5.ext E462).ext E465).keep Kc475 (ninS (Nat.ne_of_lt (Nat.lt_of_lt_of_le lt_b452_465 (Nat.le_of_eq g465.symm))) nin0))
  have f485 := (((Q460_6.ext E462).ext E465).keep Kc475 (ninS (Nat.ne_of_lt (Nat.lt_of_lt_of_le lt_b452_465 (Nat.le_of_eq g465.symm))) nin0))
  have f486 := (f473.keep Kc475)
  have f487 := (((Q460_2.ext E462).ext E465).keep Kc475 (ninS (Nat.ne_of_lt (Nat.lt_of_lt_of_le lt_r_460_465 (Nat.le_of_eq g465.symm))) nin0))
  have f488 := (f471.keep Kc475)
  have lt_r_450_489 := f488.lt
  have lt_b452_489 := f482.lt
  have lt_r_460_489 := f486.lt
  have lt_b462_489 := f477.lt
  have lt_b465_489 := Q475_0.lt
  obtain ⟨_, _, ⟨T490, L490, k490, n490⟩, -, X490, ⟨Lc490, hQ490, l490, y490, z490⟩, st490⟩ := X475.specialBack hx (y := (⟨"com/example/invariant/invariant/Trace", "<init>", "(Ljava/util/List;Ljava/util/List;)V"⟩ : MethodName)) rfl hown (mvT hZ (hw _ (List.mem_of_getElem? (i := 109) rfl))) (mvT hZ (hw _ (List.mem_of_getElem? (i := 110) rfl))) (mvT hZ (hw _ (List.mem_of_getElem? (i := 111) rfl))) (by decide) (backOf (W := 1) (own_rm_t2 l Z a0 hw [] b462 b452 b465 r_460 r_450 kr_460 w_NONE w_DEF w_EMP w_EL w_ELA mir kd ke T475.heap n0 O475 HS f477 f478 f479 f480 f481 g_b462 f482 f483 f484 f485 f486 f487 f488 Q475_0 Q475_1 Q475_2 Q475_3) hZ (hw _ (List.mem_of_getElem? (i := 111) rfl)) (hw _ (List.mem_of_getElem? (i := 108) rfl)) (by decide) (by decide)) (g := (mkF m 36 #[.val (.int p1), .val (.int p2), .val (.ref r_450), .val (.ref b452), .unset, .unset, .unset, .unset] [(.ref b465), (.ref b452), (.ref b462), (.ref b462)])) rfl (by rw [hml]; rfl) (Steps.refl _) (a := b462) (argsL := [(.ref b452), (.ref b465)]) (rest := [(.ref b462)]) (lenOf own_pd_22 rfl) rfl (by show 2 * 0 + _ ≤ _; exact Nat.le_of_eq rfl) (hb hby at_36) (fun _ _ => ⟨rfl, (rfl : T475.heap = T475.heap), (by decide : 8 + 2 ≤ _), (by decide : 82 + 3 ≤ _)⟩)
  dsimp only [Pt.U, Pt.locs, Pt.cells, Pt.slots] at X490 l490 y490 z490 st490 hQ490
  subst l490 y490 z490
  obtain ⟨r_490, rfl, N490q, Kc490, Q490_0, Q490_1, Q490_2, Q490_3, Q490_4, Q490_5, Q490_6⟩ := hQ490
  have O490 := O475.keep Kc490 (allS g_b462 all0)
  have hk491 := Nat.le_trans hk476 Kc490.1
  have N490 := Fr.app N475 N490q
  refine own_go (B := T490.setTop (mkF m 39 #[.val (.int p1), .val (.int p2), .val (.ref r_450), .val (.ref b452), .unset, .unset, .unset, .unset] [(.ref b462)])) (fun t k => st490.trans k) ?_
  have g_r_490 : n0 ≤ r_490 := Nat.le_trans (own_n0 O475) Q490_0
  refine own_go (B := T490.setTop (mkF m 41 #[.val (.int p1), .val (.int p2), .val (.ref r_450), .val (.ref b452), .val (.ref b462), .unset, .unset, .unset] [])) (fun t k => XS.astore X490.here hx rfl (hb hby at_39) rfl rfl (l' := #[.val (.int p1), .val (.int p2), .val (.ref r_450), .val (.ref b452), .val (.ref b462), .unset, .unset, .unset]) rfl k) ?_
  refine own_go (B := T490.setTop (mkF m 43 #[.val (.int p1), .val (.int p2), .val (.ref r_450), .val (.ref b452), .val (.ref b462), .unset, .unset, .unset] [(.ref b462)])) (fun t k => XS.aload X490.here hx rfl (hb hby at_41) rfl rfl k) ?_
  obtain ⟨cq492, kq492, q492a, q492b, q492c⟩ := isOf hZ (rfl : T490.heap = T490.heap) Q490_1
  obtain ⟨_, _, ⟨T492, L492, k492, n492⟩, -, X492, ⟨Lc492, hQ492, l492, y492, z492⟩, st492⟩ := X490.virtualBack hx (y := (⟨"com/example/invariant/invariant/Trace", "loops", "()Z"⟩ : MethodName)) (z := (⟨"com/example/invariant/invariant/Trace", "loops", "()Z"⟩ : MethodName)) hown (mvT hZ (hw _ (List.mem_of_getElem? (i := 221) rfl))) (mvT hZ (hw _ (List.mem_of_getElem? (i := 222) rfl))) (notFace_of_selects (args := #[]) (mvT hZ (hw _ (List.mem_of_getElem? (i := 224) rfl)))) (mvT hZ (hw _ (List.mem_of_getElem? (i := 224) rfl))) (mvT hZ (hw _ (List.mem_of_getElem? (i := 223) rfl))) (by decide) (backOf (W := 0) (own_rm_loops0 l Z a0 hw [] b462 T490.heap n0 O490 Q490_4) hZ (hw _ (List.mem_of_getElem? (i := 225) rfl)) (hw _ (List.mem_of_getElem? (i := 108) rfl)) (by decide) (by decide)) q492a q492c (g := (mkF m 43 #[.val (.int p1), .val (.int p2), .val (.ref r_450), .val (.ref b452), .val (.ref b462), .unset, .unset, .unset] [(.ref b462)])) rfl (by rw [hml]; rfl) (Steps.refl _) (argsL := []) (rest := []) (lenOf own_pd_14 rfl) rfl (by show 2 * 0 + _ ≤ _; exact Nat.le_of_eq rfl) (hb hby at_43) (fun _ _ => ⟨rfl, (rfl : T490.heap = T490.heap), (by decide : 10 + 0 ≤ _), (by decide : 85 + 0 ≤ _)⟩)
  dsimp only [Pt.U, Pt.locs, Pt.cells, Pt.slots] at X492 l492 y492 z492 st492 hQ492
  subst l492 y492 z492
  obtain ⟨rfl, N492q, eh492⟩ := hQ492
  have N492 := Fr.app N490 N492q
  refine own_go (B := T492.setTop (mkF m 46 #[.val (.int p1), .val (.int p2), .val (.ref r_450), .val (.ref b452), .val (.ref b462), .unset, .unset, .unset] [(.int (0 : Int32))])) (fun t k => st492.trans k) ?_
  refine own_go (B := T492.setTop (mkF m 49 #[.val (.int p1), .val (.int p2), .val (.ref r_450), .val (.ref b452), .val (.ref b462), .unset, .unset, .unset] [])) (fun t k => XS.ifNo X492.here hx rfl (hb hby at_46) rfl ((if0 _ _).trans (teq (by decide : (0 : Int32) = (0 : Int32))).2) k) ?_
  refine own_go (B := T492.setTop (mkF m 50 #[.val (.int p1), .val (.int p2), .val (.ref r_450), .val (.ref b452), .val (.ref b462), .unset, .unset, .unset] [(.int (1 : Int32))])) (fun t k => XS.iconst X492.here hx rfl (hb hby at_49) k) ?_
  refine own_go (B := T492.setTop (mkF m 54 #[.val (.int p1), .val (.int p2), .val (.ref r_450), .val (.ref b452), .val (.ref b462), .unset, .unset, .unset] [(.int (1 : Int32))])) (fun t k => XS.goto X492.here hx rfl (pc0 := 50) (pc' := 54) rfl (hb hby at_50) (by decide) (by decide) k) ?_
  refine own_go (B := T492.setTop (mkF m 56 #[.val (.int p1), .val (.int p2), .val (.ref r_450), .val (.ref b452), .val (.ref b462), .val (.int (1 : Int32)), .unset, .unset] [])) (fun t k => XS.istore X492.here hx rfl (hb hby at_54) rfl (l' := #[.val (.int p1), .val (.int p2), .val (.ref r_450), .val (.ref b452), .val (.ref b462), .val (.int (1 : Int32)), .unset, .unset]) rfl k) ?_
  refine own_go (B := T492.setTop (mkF m 57 #[.val (.int p1), .val (.int p2), .val (.ref r_450), .val (.ref b452), .val (.ref b462), .val (.int (1 : Int32)), .unset, .unset] [(.int p2)])) (fun t k => XS.iloadN X492.here hx rfl (hb hby at_56) rfl k) ?_
  refine own_go (B := T492.setTop (mkF m 58 #[.val (.int p1), .val (.int p2), .val (.ref r_450), .val (.ref b452), .val (.ref b462), .val (.int (1 : Int32)), .unset, .unset] [(.int (1 : Int32)), (.int p2)])) (fun t k => XS.iconst X492.here hx rfl (hb hby at_57) k) ?_
  refine own_go (B := T492.setTop (mkF m 59 #[.val (.int p1), .val (.int p2), .val (.ref r_450), .val (.ref b452), .val (.ref b462), .val (.int (1 : Int32)), .unset, .unset] [(.int (p2 &&& (1 : Int32)))])) (fun t k => XS.iand X492.here hx rfl (hb hby at_58) rfl k) ?_
  by_cases hc59_494 : (p2 &&& (1 : Int32)) = (0 : Int32)
  · refine own_go (B := T492.setTop (mkF m 70 #[.val (.int p1), .val (.int p2), .val (.ref r_450), .val (.ref b452), .val (.ref b462), .val (.int (1 : Int32)), .unset, .unset] [])) (fun t k => XS.ifYes X492.here hx rfl (pc0 := 59) (pc' := 70) rfl (hb hby at_59) rfl ((if0 _ _).trans (teq hc59_494).1) (by decide) (by decide) k) ?_
    refine own_go (B := T492.setTop (mkF m 72 #[.val (.int p1), .val (.int p2), .val (.ref r_450), .val (.ref b452), .val (.ref b462), .val (.int (1 : Int32)), .unset, .unset] [(.ref b462)])) (fun t k => XS.aload X492.here hx rfl (hb hby at_70) rfl rfl k) ?_
    refine own_go (B := T492.setTop (mkF m 73 #[.val (.int p1), .val (.int p2), .val (.ref r_450), .val (.ref b452), .val (.ref b462), .val (.int (1 : Int32)), .unset, .unset] [.null, (.ref b462)])) (fun t k => XS.aconstNull X492.here hx rfl (hb hby at_72) k) ?_
    refine own_go (B := T492.setTop (mkF m 74 #[.val (.int p1), .val (.int p2), .val (.ref r_450), .val (.ref b452), .val (.ref b462), .val (.int (1 : Int32)), .unset, .unset] [(.int (0 : Int32)), .null, (.ref b462)])) (fun t k => XS.iconst X492.here hx rfl (hb hby at_73) k) ?_
    have f496 := (f488.keep Kc490)
    have lt_r_450_495 := f496.lt
    have f497 := (f482.keep Kc490)
    have lt_b452_495 := f497.lt
    have f498 := (f486.keep Kc490)
    have lt_r_460_495 := f498.lt
    have lt_b462_495 := Q490_1.lt
    have f499 := (Q475_0.keep Kc490)
    have lt_b465_495 := f499.lt
    have lt_r_490_495 := Q490_5.lt
    obtain ⟨cq500, kq500, q500a, q500b, q500c⟩ := isOf hZ eh492 Q490_1
    obtain ⟨_, _, ⟨T500, L500, k500, n500⟩, -, X500, ⟨Lc500, hQ500, l500, y500, z500⟩, st500⟩ := X492.virtualBack hx (y := (⟨"com/example/invariant/invariant/Trace", "loopingBack", "(Lcom/example/invariant/invariant/Model$Occurrence;I)Lcom/example/invariant/invariant/Trace;"⟩ : MethodName)) (z := (⟨"com/example/invariant/invariant/Trace", "loopingBack", "(Lcom/example/invariant/invariant/Model$Occurrence;I)Lcom/example/invariant/invariant/Trace;"⟩ : MethodName)) hown (mvT hZ (hw _ (List.mem_of_getElem? (i := 265) rfl))) (mvT hZ (hw _ (List.mem_of_getElem? (i := 238) rfl))) (notFace_of_selects (args := #[]) (mvT hZ (hw _ (List.mem_of_getElem? (i := 240) rfl)))) (mvT hZ (hw _ (List.mem_of_getElem? (i := 240) rfl))) (mvT hZ (hw _ (List.mem_of_getElem? (i := 239) rfl))) (by decide) (backOf (W := 0) (own_rm_back l Z a0 hw [] b462 r_490 w_NONE w_DEF w_EMP w_EL w_ELA mir kd ke T490.heap n0 O490 HS Q490_1 Q490_2 Q490_3 Q490_4 Q490_5 Q490_6) hZ (hw _ (List.mem_of_getElem? (i := 241) rfl)) (hw _ (List.mem_of_getElem? (i := 108) rfl)) (by decide) (by decide)) q500a q500c (g := (mkF m 74 #[.val (.int p1), .val (.int p2), .val (.ref r_450), .val (.ref b452), .val (.ref b462), .val (.int (1 : Int32)), .unset, .unset] [(.int (0 : Int32)), .null, (.ref b462)])) rfl (by rw [hml]; rfl) (Steps.refl _) (argsL := [.null, (.int (0 : Int32))]) (rest := []) (lenOf own_pd_19 rfl) rfl (by show 2 * 0 + _ ≤ _; exact Nat.le_of_eq rfl) (hb hby at_74) (fun _ _ => ⟨rfl, eh492, (by decide : 10 + 1 ≤ _), (by decide : 85 + 4 ≤ _)⟩)
    dsimp only [Pt.U, Pt.locs, Pt.cells, Pt.slots] at X500 l500 y500 z500 st500 hQ500
    subst l500 y500 z500
    obtain ⟨r_500, rfl, N500q, Kc500, Q500_0, Q500_1, Q500_2⟩ := hQ500
    have E500 := Kc500
    have hk501 := Nat.le_trans hk491 E500.1
    have O500 := O490.ext E500
    have N500 := Fr.app N492 N500q
    refine own_go (B := T500.setTop (mkF m 77 #[.val (.int p1), .val (.int p2), .val (.ref r_450), .val (.ref b452), .val (.ref b462), .val (.int (1 : Int32)), .unset, .unset] [(.ref r_500)])) (fun t k => st500.trans k) ?_
    have g_r_500 : n0 ≤ r_500 := Nat.le_trans (own_n0 O490) Q500_0
    refine own_go (B := T500.setTop (mkF m 79 #[.val (.int p1), .val (.int p2), .val (.ref r_450), .val (.ref b452), .val (.ref b462), .val (.int (1 : Int32)), .val (.ref r_500), .unset] [])) (fun t k => XS.astore X500.here hx rfl (hb hby at_77) rfl rfl (l' := #[.val (.int p1), .val (.int p2), .val (.ref r_450), .val (.ref b452), .val (.ref b462), .val (.int (1 : Int32)), .val (.ref r_500), .unset]) rfl k) ?_
    refine own_go (B := T500.setTop (mkF m 81 #[.val (.int p1), .val (.int p2), .val (.ref r_450), .val (.ref b452), .val (.ref b462), .val (.int (1 : Int32)), .val (.ref r_500), .unset] [(.ref r_500)])) (fun t k => XS.aload X500.here hx rfl (hb hby at_79) rfl rfl k) ?_
    obtain ⟨cq502, kq502, q502a, q502b, q502c⟩ := isOf hZ (rfl : T500.heap = T500.heap) Q500_1
    obtain ⟨_, _, ⟨T502, L502, k502, n502⟩, -, X502, ⟨Lc502, hQ502, l502, y502, z502⟩, st502⟩ := X500.virtualBack hx (y := (⟨"com/example/invariant/invariant/Trace", "loops", "()Z"⟩ : MethodName)) (z := (⟨"com/example/invariant/invariant/Trace", "loops", "()Z"⟩ : MethodName)) hown (mvT hZ (hw _ (List.mem_of_getElem? (i := 221) rfl))) (mvT hZ (hw _ (List.mem_of_getElem? (i := 222) rfl))) (notFace_of_selects (args := #[]) (mvT hZ (hw _ (List.mem_of_getElem? (i := 224) rfl)))) (mvT hZ (hw _ (List.mem_of_getElem? (i := 224) rfl))) (mvT hZ (hw _ (List.mem_of_getElem? (i := 223) rfl))) (by decide) (backOf (W := 0) (own_rm_loops1 l Z a0 hw [] r_500 T500.heap n0 O500 Q500_2) hZ (hw _ (List.mem_of_getElem? (i := 225) rfl)) (hw _ (List.mem_of_getElem? (i := 108) rfl)) (by decide) (by decide)) q502a q502c (g := (mkF m 81 #[.val (.int p1), .val (.int p2), .val (.ref r_450), .val (.ref b452), .val (.ref b462), .val (.int (1 : Int32)), .val (.ref r_500), .unset] [(.ref r_500)])) rfl (by rw [hml]; rfl) (Steps.refl _) (argsL := []) (rest := []) (lenOf own_pd_14 rfl) rfl (by show 2 * 0 + _ ≤ _; exact Nat.le_of_eq rfl) (hb hby at_81) (fun _ _ => ⟨rfl, (rfl : T500.heap = T500.heap), (by decide : 11 + 0 ≤ _), (by decide : 89 + 0 ≤ _)⟩)
    dsimp only [Pt.U, Pt.locs, Pt.cells, Pt.slots] at X502 l502 y502 z502 st502 hQ502
    subst l502 y502 z502
    obtain ⟨rfl, N502q, eh502⟩ := hQ502
    have N502 := Fr.app N500 N502q
    refine own_go (B := T502.setTop (mkF m 84 #[.val (.int p1), .val (.int p2), .val (.ref r_450), .val (.ref b452), .val (.ref b462), .val (.int (1 : Int32)), .val (.ref r_500), .unset] [(.int (1 : Int32))])) (fun t k => st502.trans k) ?_
    refine own_go (B := T502.setTop (mkF m 87 #[.val (.int p1), .val (.int p2), .val (.ref r_450), .val (.ref b452), .val (.ref b462), .val (.int (1 : Int32)), .val (.ref r_500), .unset] [])) (fun t k => XS.ifNo X502.here hx rfl (hb hby at_84) rfl ((if0 _ _).trans (feq (by decide : ¬ ((1 : Int32) = (0 : Int32)))).1) k) ?_
    refine own_go (B := T502.setTop (mkF m 89 #[.val (.int p1), .val (.int p2), .val (.ref r_450), .val (.ref b452), .val (.ref b462), .val (.int (1 : Int32)), .val (.ref r_500), .unset] [(.ref r_500)])) (fun t k => XS.aload X502.here hx rfl (hb hby at_87) rfl rfl k) ?_
    obtain ⟨cq504, kq504, q504a, q504b, q504c⟩ := isOf hZ eh502 Q500_1
    obtain ⟨_, _, ⟨T504, L504, k504, n504⟩, -, X504, ⟨Lc504, hQ504, l504, y504, z504⟩, st504⟩ := X502.virtualBack hx (y := (⟨"com/example/invariant/invariant/Trace", "loop", "()I"⟩ : MethodName)) (z := (⟨"com/example/invariant/invariant/Trace", "loop", "()I"⟩ : MethodName)) hown (mvT hZ (hw _ (List.mem_of_getElem? (i := 260) rfl))) (mvT hZ (hw _ (List.mem_of_getElem? (i := 261) rfl))) (notFace_of_selects (args := #[]) (mvT hZ (hw _ (List.mem_of_getElem? (i := 263) rfl)))) (mvT hZ (hw _ (List.mem_of_getElem? (i := 263) rfl))) (mvT hZ (hw _ (List.mem_of_getElem? (i := 262) rfl))) (by decide) (backOf (W := 0) (own_rm_loop l Z a0 hw [] r_500 T500.heap n0 O500 Q500_1 Q500_2) hZ (hw _ (List.mem_of_getElem? (i := 264) rfl)) (hw _ (List.mem_of_getElem? (i := 108) rfl)) (by decide) (by decide)) q504a q504c (g := (mkF m 89 #[.val (.int p1), .val (.int p2), .val (.ref r_450), .val (.ref b452), .val (.ref b462), .val (.int (1 : Int32)), .val (.ref r_500), .unset] [(.ref r_500)])) rfl (by rw [hml]; rfl) (Steps.refl _) (argsL := []) (rest := []) (lenOf own_pd_0 rfl) rfl (by show 2 * 0 + _ ≤ _; exact Nat.le_of_eq rfl) (hb hby at_89) (fun _ _ => ⟨rfl, eh502, (by decide : 11 + 0 ≤ _), (by decide : 89 + 0 ≤ _)⟩)
    dsimp only [Pt.U, Pt.locs, Pt.cells, Pt.slots] at X504 l504 y504 z504 st504 hQ504
    subst l504 y504 z504
    obtain ⟨rfl, N504q, eh504⟩ := hQ504
    have N504 := Fr.app N502 N504q
    refine own_go (B := T504.setTop (mkF m 92 #[.val (.int p1), .val (.int p2), .val (.ref r_450), .val (.ref b452), .val (.ref b462), .val (.int (1 : Int32)), .val (.ref r_500), .unset] [(.int (0 : Int32))])) (fun t k => st504.trans k) ?_
    refine own_go (B := T504.setTop (mkF m 95 #[.val (.int p1), .val (.int p2), .val (.ref r_450), .val (.ref b452), .val (.ref b462), .val (.int (1 : Int32)), .val (.ref r_500), .unset] [])) (fun t k => XS.ifNo X504.here hx rfl (hb hby at_92) rfl ((if0 _ _).trans (teq (by decide : (0 : Int32) = (0 : Int32))).2) k) ?_
    refine own_go (B := T504.setTop (mkF m 96 #[.val (.int p1), .val (.int p2), .val (.ref r_450), .val (.ref b452), .val (.ref b462), .val (.int (1 : Int32)), .val (.ref r_500), .unset] [(.int (1 : Int32))])) (fun t k => XS.iconst X504.here hx rfl (hb hby at_95) k) ?_
    refine own_go (B := T504.setTop (mkF m 100 #[.val (.int p1), .val (.int p2), .val (.ref r_450), .val (.ref b452), .val (.ref b462), .val (.int (1 : Int32)), .val (.ref r_500), .unset] [(.int (1 : Int32))])) (fun t k => XS.goto X504.here hx rfl (pc0 := 96) (pc' := 100) rfl (hb hby at_96) (by decide) (by decide) k) ?_
    refine own_go (B := T504.setTop (mkF m 102 #[.val (.int p1), .val (.int p2), .val (.ref r_450), .val (.ref b452), .val (.ref b462), .val (.int (1 : Int32)), .val (.ref r_500), .val (.int (1 : Int32))] [])) (fun t k => XS.istore X504.here hx rfl (hb hby at_100) rfl (l' := #[.val (.int p1), .val (.int p2), .val (.ref r_450), .val (.ref b452), .val (.ref b462), .val (.int (1 : Int32)), .val (.ref r_500), .val (.int (1 : Int32))]) rfl k) ?_
    refine own_go (B := T504.setTop (mkF m 104 #[.val (.int p1), .val (.int p2), .val (.ref r_450), .val (.ref b452), .val (.ref b462), .val (.int (1 : Int32)), .val (.ref r_500), .val (.int (1 : Int32))] [(.int (1 : Int32))])) (fun t k => XS.iload X504.here hx rfl (hb hby at_102) rfl k) ?_
    refine own_go (B := T504.setTop (mkF m 107 #[.val (.int p1), .val (.int p2), .val (.ref r_450), .val (.ref b452), .val (.ref b462), .val (.int (1 : Int32)), .val (.ref r_500), .val (.int (1 : Int32))] [])) (fun t k => XS.ifNo X504.here hx rfl (hb hby at_104) rfl ((if0 _ _).trans (feq (by decide : ¬ ((1 : Int32) = (0 : Int32)))).1) k) ?_
    refine own_go (B := T504.setTop (mkF m 109 #[.val (.int p1), .val (.int p2), .val (.ref r_450), .val (.ref b452), .val (.ref b462), .val (.int (1 : Int32)), .val (.ref r_500), .val (.int (1 : Int32))] [(.int (1 : Int32))])) (fun t k => XS.iload X504.here hx rfl (hb hby at_107) rfl k) ?_
    refine own_go (B := T504.setTop (mkF m 112 #[.val (.int p1), .val (.int p2), .val (.ref r_450), .val (.ref b452), .val (.ref b462), .val (.int (1 : Int32)), .val (.ref r_500), .val (.int (1 : Int32))] [])) (fun t k => XS.ifNo X504.here hx rfl (hb hby at_109) rfl ((if0 _ _).trans (feq (by decide : ¬ ((1 : Int32) = (0 : Int32)))).1) k) ?_
    refine own_go (B := T504.setTop (mkF m 114 #[.val (.int p1), .val (.int p2), .val (.ref r_450), .val (.ref b452), .val (.ref b462), .val (.int (1 : Int32)), .val (.ref r_500), .val (.int (1 : Int32))] [(.ref b462)])) (fun t k => XS.aload X504.here hx rfl (hb hby at_112) rfl rfl k) ?_
    have f508 := (Q490_4.ext E500)
    have f510 := (Q490_1.ext E500)
    obtain ⟨cq509, kq509, q509a, q509b, q509c⟩ := isOf hZ eh504 f510
    obtain ⟨_, _, ⟨T509, L509, k509, n509⟩, -, X509, ⟨Lc509, hQ509, l509, y509, z509⟩, st509⟩ := X504.virtualBack hx (y := (⟨"com/example/invariant/invariant/Trace", "loops", "()Z"⟩ : MethodName)) (z := (⟨"com/example/invariant/invariant/Trace", "loops", "()Z"⟩ : MethodName)) hown (mvT hZ (hw _ (List.mem_of_getElem? (i := 221) rfl))) (mvT hZ (hw _ (List.mem_of_getElem? (i := 222) rfl))) (notFace_of_selects (args := #[]) (mvT hZ (hw _ (List.mem_of_getElem? (i := 224) rfl)))) (mvT hZ (hw _ (List.mem_of_getElem? (i := 224) rfl))) (mvT hZ (hw _ (List.mem_of_getElem? (i := 223) rfl))) (by decide) (backOf (W := 0) (own_rm_loops0 l Z a0 hw [] b462 T500.heap n0 O500 f508) hZ (hw _ (List.mem_of_getElem? (i := 225) rfl)) (hw _ (List.mem_of_getElem? (i := 108) rfl)) (by decide) (by decide)) q509a q509c (g := (mkF m 114 #[.val (.int p1), .val (.int p2), .val (.ref r_450), .val (.ref b452), .val (.ref b462), .val (.int (1 : Int32)), .val (.ref r_500), .val (.int (1 : Int32))] [(.ref b462)])) rfl (by rw [hml]; rfl) (Steps.refl _) (argsL := []) (rest := []) (lenOf own_pd_14 rfl) rfl (by show 2 * 0 + _ ≤ _; exact Nat.le_of_eq rfl) (hb hby at_114) (fun _ _ => ⟨rfl, eh504, (by decide : 11 + 0 ≤ _), (by decide : 89 + 0 ≤ _)⟩)
    dsimp only [Pt.U, Pt.locs, Pt.cells, Pt.slots] at X509 l509 y509 z509 st509 hQ509
    subst l509 y509 z509
    obtain ⟨rfl, N509q, eh509⟩ := hQ509
    have N509 := Fr.app N504 N509q
    refine own_go (B := T509.setTop (mkF m 117 #[.val (.int p1), .val (.int p2), .val (.ref r_450), .val (.ref b452), .val (.ref b462), .val (.int (1 : Int32)), .val (.ref r_500), .val (.int (1 : Int32))] [(.int (0 : Int32))])) (fun t k => st509.trans k) ?_
    refine own_go (B := T509.setTop (mkF m 120 #[.val (.int p1), .val (.int p2), .val (.ref r_450), .val (.ref b452), .val (.ref b462), .val (.int (1 : Int32)), .val (.ref r_500), .val (.int (1 : Int32))] [])) (fun t k => XS.ifNo X509.here hx rfl (hb hby at_117) rfl ((if0 _ _).trans (teq (by decide : (0 : Int32) = (0 : Int32))).2) k) ?_
    refine own_go (B := T509.setTop (mkF m 121 #[.val (.int p1), .val (.int p2), .val (.ref r_450), .val (.ref b452), .val (.ref b462), .val (.int (1 : Int32)), .val (.ref r_500), .val (.int (1 : Int32))] [(.int (1 : Int32))])) (fun t k => XS.iconst X509.here hx rfl (hb hby at_120) k) ?_
    refine own_go (B := T509.setTop (mkF m 125 #[.val (.int p1), .val (.int p2), .val (.ref r_450), .val (.ref b452), .val (.ref b462), .val (.int (1 : Int32)), .val (.ref r_500), .val (.int (1 : Int32))] [(.int (1 : Int32))])) (fun t k => XS.goto X509.here hx rfl (pc0 := 121) (pc' := 125) rfl (hb hby at_121) (by decide) (by decide) k) ?_
    obtain ⟨fs, hr, hrun, hended, hREW⟩ := X509.leaveW hS450 (by rw [eh509]; exact hk501) (v := some (.int (1 : Int32))) (fun h => by rw [Bd.returns] at h; cases h)
    refine ⟨_, _, retN X509 hx (t := .boolean) Bd.returns (by simp) (hb hby at_125) hr, hK _ _ ⟨hrun, hended, _, _, rfl, ?_, ⟨_, rfl⟩, hREW.2.1, hREW.2.2.1, hREW.2.2.2.mono (by decide) (by decide)⟩⟩
    show own_Q_law Z p1 p2 w_NONE w_DEF w_EMP w_EL w_ELA mir kd ke h0 n0 _ T509.heap _
    rw [eh509]
    exact ⟨rfl, N509⟩
  · refine own_go (B := T492.setTop (mkF m 62 #[.val (.int p1), .val (.int p2), .val (.ref r_450), .val (.ref b452), .val (.ref b462), .val (.int (1 : Int32)), .unset, .unset] [])) (fun t k => XS.ifNo X492.here hx rfl (hb hby at_59) rfl ((if0 _ _).trans (feq hc59_494).1) k) ?_
    refine own_go (B := T492.setTop (mkF m 64 #[.val (.int p1), .val (.int p2), .val (.ref r_450), .val (.ref b452), .val (.ref b462), .val (.int (1 : Int32)), .unset, .unset] [(.ref b462)])) (fun t k => XS.aload X492.here hx rfl (hb hby at_62) rfl rfl k) ?_
    have f514 := (f488.keep Kc490)
    have lt_r_450_513 := f514.lt
    have f515 := (f482.keep Kc490)
    have lt_b452_513 := f515.lt
    have f516 := (f486.keep Kc490)
    have lt_r_460_513 := f516.lt
    have lt_b462_513 := Q490_1.lt
    have f517 := (Q475_0.keep Kc490)
    have lt_b465_513 := f517.lt
    have lt_r_490_513 := Q490_5.lt
    obtain ⟨cq518, kq518, q518a, q518b, q518c⟩ := isOf hZ eh492 Q490_1
    obtain ⟨_, _, ⟨T518, L518, k518, n518⟩, -, X518, ⟨Lc518, hQ518, l518, y518, z518⟩, st518⟩ := X492.virtualBack hx (y := (⟨"com/example/invariant/invariant/Trace", "stuttering", "()Lcom/example/invariant/invariant/Trace;"⟩ : MethodName)) (z := (⟨"com/example/invariant/invariant/Trace", "stuttering", "()Lcom/example/invariant/invariant/Trace;"⟩ : MethodName)) hown (mvT hZ (hw _ (List.mem_of_getElem? (i := 226) rfl))) (mvT hZ (hw _ (List.mem_of_getElem? (i := 227) rfl))) (notFace_of_selects (args := #[]) (mvT hZ (hw _ (List.mem_of_getElem? (i := 229) rfl)))) (mvT hZ (hw _ (List.mem_of_getElem? (i := 229) rfl))) (mvT hZ (hw _ (List.mem_of_getElem? (i := 228) rfl))) (by decide) (backOf (W := 0) (own_rm_stut l Z a0 hw [] b462 r_490 w_NONE w_DEF w_EMP w_EL w_ELA mir kd ke T490.heap n0 O490 HS Q490_1 Q490_2 Q490_3 Q490_4 Q490_5 Q490_6) hZ (hw _ (List.mem_of_getElem? (i := 230) rfl)) (hw _ (List.mem_of_getElem? (i := 108) rfl)) (by decide) (by decide)) q518a q518c (g := (mkF m 64 #[.val (.int p1), .val (.int p2), .val (.ref r_450), .val (.ref b452), .val (.ref b462), .val (.int (1 : Int32)), .unset, .unset] [(.ref b462)])) rfl (by rw [hml]; rfl) (Steps.refl _) (argsL := []) (rest := []) (lenOf own_pd_23 rfl) rfl (by show 2 * 0 + _ ≤ _; exact Nat.le_of_eq rfl) (hb hby at_64) (fun _ _ => ⟨rfl, eh492, (by decide : 10 + 1 ≤ _), (by decide : 85 + 4 ≤ _)⟩)
    dsimp only [Pt.U, Pt.locs, Pt.cells, Pt.slots] at X518 l518 y518 z518 st518 hQ518
    subst l518 y518 z518
    obtain ⟨r_518, rfl, N518q, Kc518, Q518_0, Q518_1, Q518_2⟩ := hQ518
    have E518 := Kc518
    have hk519 := Nat.le_trans hk491 E518.1
    have O518 := O490.ext E518
    have N518 := Fr.app N492 N518q
    refine own_go (B := T518.setTop (mkF m 67 #[.val (.int p1), .val (.int p2), .val (.ref r_450), .val (.ref b452), .val (.ref b462), .val (.int (1 : Int32)), .unset, .unset] [(.ref r_518)])) (fun t k => st518.trans k) ?_
    have g_r_518 : n0 ≤ r_518 := Nat.le_trans (own_n0 O490) Q518_0
    refine own_go (B := T518.setTop (mkF m 77 #[.val (.int p1), .val (.int p2), .val (.ref r_450), .val (.ref b452), .val (.ref b462), .val (.int (1 : Int32)), .unset, .unset] [(.ref r_518)])) (fun t k => XS.goto X518.here hx rfl (pc0 := 67) (pc' := 77) rfl (hb hby at_67) (by decide) (by decide) k) ?_
    refine own_go (B := T518.setTop (mkF m 79 #[.val (.int p1), .val (.int p2), .val (.ref r_450), .val (.ref b452), .val (.ref b462), .val (.int (1 : Int32)), .val (.ref r_518), .unset] [])) (fun t k => XS.astore X518.here hx rfl (hb hby at_77) rfl rfl (l' := #[.val (.int p1), .val (.int p2), .val (.ref r_450), .val (.ref b452), .val (.ref b462), .val (.int (1 : Int32)), .val (.ref r_518), .unset]) rfl k) ?_
    refine own_go (B := T518.setTop (mkF m 81 #[.val (.int p1), .val (.int p2), .val (.ref r_450), .val (.ref b452), .val (.ref b462), .val (.int (1 : Int32)), .val (.ref r_518), .unset] [(.ref r_518)])) (fun t k => XS.aload X518.here hx rfl (hb hby at_79) rfl rfl k) ?_
    obtain ⟨cq520, kq520, q520a, q520b, q520c⟩ := isOf hZ (rfl : T518.heap = T518.heap) Q518_1
    obtain ⟨_, _, ⟨T520, L520, k520, n520⟩, -, X520, ⟨Lc520, hQ520, l520, y520, z520⟩, st520⟩ := X518.virtualBack hx (y := (⟨"com/example/invariant/invariant/Trace", "loops", "()Z"⟩ : MethodName)) (z := (⟨"com/example/invariant/invariant/Trace", "loops", "()Z"⟩ : MethodName)) hown (mvT hZ (hw _ (List.mem_of_getElem? (i := 221) rfl))) (mvT hZ (hw _ (List.mem_of_getElem? (i := 222) rfl))) (notFace_of_selects (args := #[]) (mvT hZ (hw _ (List.mem_of_getElem? (i := 224) rfl)))) (mvT hZ (hw _ (List.mem_of_getElem? (i := 224) rfl))) (mvT hZ (hw _ (List.mem_of_getElem? (i := 223) rfl))) (by decide) (backOf (W := 0) (own_rm_loops1 l Z a0 hw [] r_518 T518.heap n0 O518 Q518_2) hZ (hw _ (List.mem_of_getElem? (i := 225) rfl)) (hw _ (List.mem_of_getElem? (i := 108) rfl)) (by decide) (by decide)) q520a q520c (g := (mkF m 81 #[.val (.int p1), .val (.int p2), .val (.ref r_450), .val (.ref b452), .val (.ref b462), .val (.int (1 : Int32)), .val (.ref r_518), .unset] [(.ref r_518)])) rfl (by rw [hml]; rfl) (Steps.refl _) (argsL := []) (rest := []) (lenOf own_pd_14 rfl) rfl (by show 2 * 0 + _ ≤ _; exact Nat.le_of_eq rfl) (hb hby at_81) (fun _ _ => ⟨rfl, (rfl : T518.heap = T518.heap), (by decide : 11 + 0 ≤ _), (by decide : 89 + 0 ≤ _)⟩)
    dsimp only [Pt.U, Pt.locs, Pt.cells, Pt.slots] at X520 l520 y520 z520 st520 hQ520
    subst l520 y520 z520
    obtain ⟨rfl, N520q, eh520⟩ := hQ520
    have N520 := Fr.app N518 N520q
    refine own_go (B := T520.setTop (mkF m 84 #[.val (.int p1), .val (.int p2), .val (.ref r_450), .val (.ref b452), .val (.ref b462), .val (.int (1 : Int32)), .val (.ref r_518), .unset] [(.int (1 : Int32))])) (fun t k => st520.trans k) ?_
    refine own_go (B := T520.setTop (mkF m 87 #[.val (.int p1), .val (.int p2), .val (.ref r_450), .val (.ref b452), .val (.ref b462), .val (.int (1 : Int32)), .val (.ref r_518), .unset] [])) (fun t k => XS.ifNo X520.here hx rfl (hb hby at_84) rfl ((if0 _ _).trans (feq (by decide : ¬ ((1 : Int32) = (0 : Int32)))).1) k) ?_
    refine own_go (B := T520.setTop (mkF m 89 #[.val (.int p1), .val (.int p2), .val (.ref r_450), .val (.ref b452), .val (.ref b462), .val (.int (1 : Int32)), .val (.ref r_518), .unset] [(.ref r_518)])) (fun t k => XS.aload X520.here hx rfl (hb hby at_87) rfl rfl k) ?_
    obtain ⟨cq522, kq522, q522a, q522b, q522c⟩ := isOf hZ eh520 Q518_1
    obtain ⟨_, _, ⟨T522, L522, k522, n522⟩, -, X522, ⟨Lc522, hQ522, l522, y522, z522⟩, st522⟩ := X520.virtualBack hx (y := (⟨"com/example/invariant/invariant/Trace", "loop", "()I"⟩ : MethodName)) (z := (⟨"com/example/invariant/invariant/Trace", "loop", "()I"⟩ : MethodName)) hown (mvT hZ (hw _ (List.mem_of_getElem? (i := 260) rfl))) (mvT hZ (hw _ (List.mem_of_getElem? (i := 261) rfl))) (notFace_of_selects (args := #[]) (mvT hZ (hw _ (List.mem_of_getElem? (i := 263) rfl)))) (mvT hZ (hw _ (List.mem_of_getElem? (i := 263) rfl))) (mvT hZ (hw _ (List.mem_of_getElem? (i := 262) rfl))) (by decide) (backOf (W := 0) (own_rm_loop l Z a0 hw [] r_518 T518.heap n0 O518 Q518_1 Q518_2) hZ (hw _ (List.mem_of_getElem? (i := 264) rfl)) (hw _ (List.mem_of_getElem? (i := 108) rfl)) (by decide) (by decide)) q522a q522c (g := (mkF m 89 #[.val (.int p1), .val (.int p2), .val (.ref r_450), .val (.ref b452), .val (.ref b462), .val (.int (1 : Int32)), .val (.ref r_518), .unset] [(.ref r_518)])) rfl (by rw [hml]; rfl) (Steps.refl _) (argsL := []) (rest := []) (lenOf own_pd_0 rfl) rfl (by show 2 * 0 + _ ≤ _; exact Nat.le_of_eq rfl) (hb hby at_89) (fun _ _ => ⟨rfl, eh520, (by decide : 11 + 0 ≤ _), (by decide : 89 + 0 ≤ _)⟩)
    dsimp only [Pt.U, Pt.locs, Pt.cells, Pt.slots] at X522 l522 y522 z522 st522 hQ522
    subst l522 y522 z522
    obtain ⟨rfl, N522q, eh522⟩ := hQ522
    have N522 := Fr.app N520 N522q
    refine own_go (B := T522.setTop (mkF m 92 #[.val (.int p1), .val (.int p2), .val (.ref r_450), .val (.ref b452), .val (.ref b462), .val (.int (1 : Int32)), .val (.ref r_518), .unset] [(.int (0 : Int32))])) (fun t k => st522.trans k) ?_
    refine own_go (B := T522.setTop (mkF m 95 #[.val (.int p1), .val (.int p2), .val (.ref r_450), .val (.ref b452), .val (.ref b462), .val (.int (1 : Int32)), .val (.ref r_518), .unset] [])) (fun t k => XS.ifNo X522.here hx rfl (hb hby at_92) rfl ((if0 _ _).trans (teq (by decide : (0 : Int32) = (0 : Int32))).2) k) ?_
    refine own_go (B := T522.setTop (mkF m 96 #[.val (.int p1), .val (.int p2), .val (.ref r_450), .val (.ref b452), .val (.ref b462), .val (.int (1 : Int32)), .val (.ref r_518), .unset] [(.int (1 : Int32))])) (fun t k => XS.iconst X522.here hx rfl (hb hby at_95) k) ?_
    refine own_go (B := T522.setTop (mkF m 100 #[.val (.int p1), .val (.int p2), .val (.ref r_450), .val (.ref b452), .val (.ref b462), .val (.int (1 : Int32)), .val (.ref r_518), .unset] [(.int (1 : Int32))])) (fun t k => XS.goto X522.here hx rfl (pc0 := 96) (pc' := 100) rfl (hb hby at_96) (by decide) (by decide) k) ?_
    refine own_go (B := T522.setTop (mkF m 102 #[.val (.int p1), .val (.int p2), .val (.ref r_450), .val (.ref b452), .val (.ref b462), .val (.int (1 : Int32)), .val (.ref r_518), .val (.int (1 : Int32))] [])) (fun t k => XS.istore X522.here hx rfl (hb hby at_100) rfl (l' := #[.val (.int p1), .val (.int p2), .val (.ref r_450), .val (.ref b452), .val (.ref b462), .val (.int (1 : Int32)), .val (.ref r_518), .val (.int (1 : Int32))]) rfl k) ?_
    refine own_go (B := T522.setTop (mkF m 104 #[.val (.int p1), .val (.int p2), .val (.ref r_450), .val (.ref b452), .val (.ref b462), .val (.int (1 : Int32)), .val (.ref r_518), .val (.int (1 : Int32))] [(.int (1 : Int32))])) (fun t k => XS.iload X522.here hx rfl (hb hby at_102) rfl k) ?_
    refine own_go (B := T522.setTop (mkF m 107 #[.val (.int p1), .val (.int p2), .val (.ref r_450), .val (.ref b452), .val (.ref b462), .val (.int (1 : Int32)), .val (.ref r_518), .val (.int (1 : Int32))] [])) (fun t k => XS.ifNo X522.here hx rfl (hb hby at_104) rfl ((if0 _ _).trans (feq (by decide : ¬ ((1 : Int32) = (0 : Int32)))).1) k) ?_
    refine own_go (B := T522.setTop (mkF m 109 #[.val (.int p1), .val (.int p2), .val (.ref r_450), .val (.ref b452), .val (.ref b462), .val (.int (1 : Int32)), .val (.ref r_518), .val (.int (1 : Int32))] [(.int (1 : Int32))])) (fun t k => XS.iload X522.here hx rfl (hb hby at_107) rfl k) ?_
    refine own_go (B := T522.setTop (mkF m 112 #[.val (.int p1), .val (.int p2), .val (.ref r_450), .val (.ref b452), .val (.ref b462), .val (.int (1 : Int32)), .val (.ref r_518), .val (.int (1 : Int32))] [])) (fun t k => XS.ifNo X522.here hx rfl (hb hby at_109) rfl ((if0 _ _).trans (feq (by decide : ¬ ((1 : Int32) = (0 : Int32)))).1) k) ?_
    refine own_go (B := T522.setTop (mkF m 114 #[.val (.int p1), .val (.int p2), .val (.ref r_450), .val (.ref b452), .val (.ref b462), .val (.int (1 : Int32)), .val (.ref r_518), .val (.int (1 : Int32))] [(.ref b462)])) (fun t k => XS.aload X522.here hx rfl (hb hby at_112) rfl rfl k) ?_
    have f526 := (Q490_4.ext E518)
    have f528 := (Q490_1.ext E518)
    obtain ⟨cq527, kq527, q527a, q527b, q527c⟩ := isOf hZ eh522 f528
    obtain ⟨_, _, ⟨T527, L527, k527, n527⟩, -, X527, ⟨Lc527, hQ527, l527, y527, z527⟩, st527⟩ := X522.virtualBack hx (y := (⟨"com/example/invariant/invariant/Trace", "loops", "()Z"⟩ : MethodName)) (z := (⟨"com/example/invariant/invariant/Trace", "loops", "()Z"⟩ : MethodName)) hown (mvT hZ (hw _ (List.mem_of_getElem? (i := 221) rfl))) (mvT hZ (hw _ (List.mem_of_getElem? (i := 222) rfl))) (notFace_of_selects (args := #[]) (mvT hZ (hw _ (List.mem_of_getElem? (i := 224) rfl)))) (mvT hZ (hw _ (List.mem_of_getElem? (i := 224) rfl))) (mvT hZ (hw _ (List.mem_of_getElem? (i := 223) rfl))) (by decide) (backOf (W := 0) (own_rm_loops0 l Z a0 hw [] b462 T518.heap n0 O518 f526) hZ (hw _ (List.mem_of_getElem? (i := 225) rfl)) (hw _ (List.mem_of_getElem? (i := 108) rfl)) (by decide) (by decide)) q527a q527c (g := (mkF m 114 #[.val (.int p1), .val (.int p2), .val (.ref r_450), .val (.ref b452), .val (.ref b462), .val (.int (1 : Int32)), .val (.ref r_518), .val (.int (1 : Int32))] [(.ref b462)])) rfl (by rw [hml]; rfl) (Steps.refl _) (argsL := []) (rest := []) (lenOf own_pd_14 rfl) rfl (by show 2 * 0 + _ ≤ _; exact Nat.le_of_eq rfl) (hb hby at_114) (fun _ _ => ⟨rfl, eh522, (by decide : 11 + 0 ≤ _), (by decide : 89 + 0 ≤ _)⟩)
    dsimp only [Pt.U, Pt.locs, Pt.cells, Pt.slots] at X527 l527 y527 z527 st527 hQ527
    subst l527 y527 z527
    obtain ⟨rfl, N527q, eh527⟩ := hQ527
    have N527 := Fr.app N522 N527q
    refine own_go (B := T527.setTop (mkF m 117 #[.val (.int p1), .val (.int p2), .val (.ref r_450), .val (.ref b452), .val (.ref b462), .val (.int (1 : Int32)), .val (.ref r_518), .val (.int (1 : Int32))] [(.int (0 : Int32))])) (fun t k => st527.trans k) ?_
    refine own_go (B := T527.setTop (mkF m 120 #[.val (.int p1), .val (.int p2), .val (.ref r_450), .val (.ref b452), .val (.ref b462), .val (.int (1 : Int32)), .val (.ref r_518), .val (.int (1 : Int32))] [])) (fun t k => XS.ifNo X527.here hx rfl (hb hby at_117) rfl ((if0 _ _).trans (teq (by decide : (0 : Int32) = (0 : Int32))).2) k) ?_
    refine own_go (B := T527.setTop (mkF m 121 #[.val (.int p1), .val (.int p2), .val (.ref r_450), .val (.ref b452), .val (.ref b462), .val (.int (1 : Int32)), .val (.ref r_518), .val (.int (1 : Int32))] [(.int (1 : Int32))])) (fun t k => XS.iconst X527.here hx rfl (hb hby at_120) k) ?_
    refine own_go (B := T527.setTop (mkF m 125 #[.val (.int p1), .val (.int p2), .val (.ref r_450), .val (.ref b452), .val (.ref b462), .val (.int (1 : Int32)), .val (.ref r_518), .val (.int (1 : Int32))] [(.int (1 : Int32))])) (fun t k => XS.goto X527.here hx rfl (pc0 := 121) (pc' := 125) rfl (hb hby at_121) (by decide) (by decide) k) ?_
    obtain ⟨fs, hr, hrun, hended, hREW⟩ := X527.leaveW hS450 (by rw [eh527]; exact hk519) (v := some (.int (1 : Int32))) (fun h => by rw [Bd.returns] at h; cases h)
    refine ⟨_, _, retN X527 hx (t := .boolean) Bd.returns (by simp) (hb hby at_125) hr, hK _ _ ⟨hrun, hended, _, _, rfl, ?_, ⟨_, rfl⟩, hREW.2.1, hREW.2.2.1, hREW.2.2.2.mono (by decide) (by decide)⟩⟩
    show own_Q_law Z p1 p2 w_NONE w_DEF w_EMP w_EL w_ELA mir kd ke h0 n0 _ T527.heap _
    rw [eh527]
    exact ⟨rfl, N527⟩
set_option maxRecDepth 65536 in
set_option maxHeartbeats 40000000 in
theorem comes_1 {Post : Tables → Env → Array Value → State → Outcome → State → Prop} (hpost : ∀ tb e args s v u, (limb_1_1.after args s (.returned v) u = true ∧ limb_1_2.after args s (.returned v) u = true ∧ True) → ReturnedEndW s (.returned v) u (Jvm.fieldLocs frame_1_writes args s ++ Jvm.arrayLocs frame_1_arrays args s ++ Jvm.staticLocs frame_1_statics s) 32 1216 → Post tb e args s (.returned v) u) :
    ArmFor flags0 classFile x code maxLocals ret World_1 tables_1 room_1 Calls_1 rest_1 Pre_1 Post := by
  intro l hfl _ _ p e ha hc hk s m args below hf hA hF happ hP
  obtain ⟨hcalls, hrest, hpre⟩ := hP
  obtain ⟨-, -, -, hnamed, -, -, -, hat⟩ := (Spec.applies_iff hf).mp happ
  obtain ⟨hg, hn⟩ := and_e (Cond.before_iff.mp (show (Jvm.Cond.and given_1 narrow_1).before args s = true from hpre))
  obtain ⟨hga, hgb⟩ := and_e hg
  obtain ⟨hgba, hgbb⟩ := and_e hgb
  obtain ⟨v0, v1, rfl⟩ : ∃ v0 v1 : Value, args = #[v0, v1] := by
    have hs : args.size = 2 := by simpa [Cond.value, given_1] using hga
    obtain ⟨L⟩ := args
    match L, hs with
    | [v0, v1], _ => exact ⟨v0, v1, rfl⟩
  have hw := fun d (hd : d ∈ tables_1) => atoms_spec (ws := Jvm.Cond.code x code maxLocals ret :: tables_1) hat d (List.mem_cons_of_mem _ hd)
  have hfit : Fit s := fun {y c} hc i hi => by
    obtain ⟨ha, rfl⟩ := Array.getElem?_eq_some_iff.mp hc
    have q := List.all_eq_true.mp ((Array.all_eq_true_iff_forall_mem.mp hF) _ (Array.getElem_mem ha)) i (List.mem_range.mpr hi)
    simpa [Array.getElem?_eq_getElem hi] using q
  obtain ⟨hsets, hown0⟩ := atoms_of _ (rest_1_c_eq ▸ (show rest_1_c.before _ s = true from hrest))
  have hr0 := Cond.before_iff.mp hown0
  obtain ⟨p1, ep1⟩ := is_v hgba
  obtain rfl : v0 = (.int p1) := Option.some.inj ep1
  obtain ⟨p2, ep2⟩ := is_v hgbb
  obtain rfl : v1 = (.int p2) := Option.some.inj ep2
  obtain ⟨hna, hnb⟩ := and_e hn
  obtain ⟨w_NONE, ev_NONE⟩ := exa_v hna
  have S_NONE := Sta.start ev_NONE (Or.inr ⟨(hw _ (List.mem_of_getElem? (i := 1) rfl)), (hw _ (List.mem_of_getElem? (i := 2) rfl))⟩)
  have E_NONE := Exa.start ev_NONE hna
  have F_NONE_hash := own_fldI ev_NONE hnb
  obtain ⟨w_DEF, evD⟩ := arr_v (Cond.before_iff.mp (hsets _ (List.mem_of_getElem? (i := 6) rfl)))
  have S_DEF := Sta.start evD (Or.inr ⟨(hw _ (List.mem_of_getElem? (i := 53) rfl)), (hsets _ (List.mem_of_getElem? (i := 2) rfl))⟩)
  obtain ⟨kd, V_DEF⟩ := own_emp hfit evD (Cond.before_iff.mp (hsets _ (List.mem_of_getElem? (i := 6) rfl))) (Cond.before_iff.mp (hsets _ (List.mem_of_getElem? (i := 8) rfl)))
  obtain ⟨w_EMP, evE⟩ := exa_v (Cond.before_iff.mp (hsets _ (List.mem_of_getElem? (i := 11) rfl)))
  have S_EMP := Sta.start evE (Or.inl (hsets _ (List.mem_of_getElem? (i := 10) rfl)))
  obtain ⟨w_EL, evL⟩ := exa_v (Cond.before_iff.mp (hsets _ (List.mem_of_getElem? (i := 17) rfl)))
  have S_EL := Sta.start evL (Or.inl (hsets _ (List.mem_of_getElem? (i := 16) rfl)))
  have E_EL := Exa.start evL (Cond.before_iff.mp (hsets _ (List.mem_of_getElem? (i := 17) rfl)))
  obtain ⟨w_ELA, evA⟩ := arr_v (Cond.before_iff.mp (hsets _ (List.mem_of_getElem? (i := 21) rfl)))
  have F_EL := Fld.start ((fld_at evL).symm.trans evA)
  obtain ⟨ke, V_ELA⟩ := own_emp hfit evA (Cond.before_iff.mp (hsets _ (List.mem_of_getElem? (i := 21) rfl))) (Cond.before_iff.mp (hsets _ (List.mem_of_getElem? (i := 23) rfl)))
  have F_AN := own_fldI evL (Cond.before_iff.mp (hsets _ (List.mem_of_getElem? (i := 24) rfl)))
  obtain ⟨cm, km, mir, hm1, hm2, hm3⟩ := hcalls.1
  have HS : own_St s w_NONE w_DEF w_EMP w_EL w_ELA mir kd ke := ⟨S_NONE, E_NONE, F_NONE_hash, S_DEF, V_DEF, S_EMP, S_EL, E_EL, F_EL, V_ELA, F_AN, ⟨cm, km, hm1, hm2, hm3.1⟩⟩
  obtain ⟨n, o, h1, h2, h3, _, L, rfl, ⟨rfl, N⟩, hq⟩ := own_rm_law l s _ hw tables_1 p1 p2 w_NONE w_DEF w_EMP w_EL w_ELA mir kd ke s.heap s.heap.size (Old.start s) HS p e ha hc hk s m _ below hf ((Spec.applies_iff_loose hf).mp happ).1 ⟨rfl, State.Warmed39.refl s, rfl⟩ trivial
  refine ⟨n, _, h1, h2, h3, hpost _ _ _ _ _ _ ⟨Cond.after_iff.mpr rfl, Cond.after_iff.mpr (eq_i res_at (Term.int_eval (1)) rfl), trivial⟩ ⟨hq.1, hq.2.1, hq.2.2.1, (hq.2.2.2.sift fun y hy => Or.inr (N y hy)).mono (by decide) (by decide)⟩⟩
theorem main_1_1 : Claimed_1_1 := comes_1 fun _ _ _ _ _ _ h hF => ⟨h.1, hF⟩
theorem main_1_2 : Claimed_1_2 := comes_1 fun _ _ _ _ _ _ h hF => ⟨h.2.1, hF⟩
end Jvm.Pilot.@@N@@
namespace Jvm.Pilot.@@N@@
open Jvm Jvm.ClassFile Sem Op Lib Jvm.Free Jvm.Stand Jvm.Pilot.@@N@@.Jvm.D
/-! MADE BY PROGRAM (witnessworld.py) out of the Statement's table words and the real class files: 37 classes; the members and pool entries that the words name. The judged class is class 1, her method 1. -/
namespace start1
open Jvm.ClassFile
def u (s : String) : CpInfo := .utf8 (stringToUtf16 s)
/-- a pool by its gaps: so many unusable entries, then the entry; so many at the end -/
def gap : Nat → List CpInfo → List CpInfo
  | 0, r => r
  | n + 1, r => .unusable :: gap n r
def poolList (es : List (Nat × CpInfo)) (last : Nat) : List CpInfo := es.foldr (fun e r => gap e.1 (e.2 :: r)) (gap last [])
def pool (es : List (Nat × CpInfo)) (last : Nat) : Array CpInfo := ⟨poolList es last⟩
def fileOf (pool : Array CpInfo) (this : Nat) (attrs : Array Attribute := #[]) (ms : Array MethodInfo := #[]) (fl : Nat := 33) (sup : Nat := 0) (ifs : Array Nat := #[]) (fds : Array FieldInfo := #[]) : ClassFile where
  minorVersion := 0
  majorVersion := 65
  constantPool := pool
  accessFlags := fl
  thisClass := this
  superClass := sup
  interfaces := ifs
  fields := fds
  methods := ms
  attributes := attrs
def plain (name : String) (sup : Option ClassId) : Class where
  name := name
  kind := .ordinary
  loader := none
  accessFlags := 33
  super := sup
  interfaces := #[]
  cf := none
  fields := #[]
  methods := #[]
  instanceTypes := #[]
  staticTypes := #[]
  resolved := #[]
  callSites := []
  init := .initialized
  statics := none
  mirror := none

def pool0 : Array CpInfo := pool [(5, u "<init>"), (0, u "()V"), (1, .class_ 10), (1, u "java/lang/Object"), (0, u "getClass"), (0, u "()Ljava/lang/Class;")] 111

def k0c0 : Code := { maxStack := 0, maxLocals := 1, code := object_method_1_code, exceptionTable := #[], attributes := #[] }
def k0m0 : Method := { name := "<init>", desc := "()V", sig := { parameters := [], returnType := none }, accessFlags := 1, code := some k0c0 }
def k0m1 : Method := { name := "getClass", desc := "()Ljava/lang/Class;", sig := { parameters := [], returnType := some (.object "java/lang/Class") }, accessFlags := 273, code := none }
/-- java/lang/Object -/
def k0 : Class := { plain "java/lang/Object" none with
  accessFlags := 33
  interfaces := #[]
  cf := some (fileOf pool0 8 #[] #[{ accessFlags := 1, nameIndex := 5, descriptorIndex := 6, attributes := #[] }, { accessFlags := 273, nameIndex := 11, descriptorIndex := 12, attributes := #[] }] 33 0 #[] #[])
  fields := #[]
  methods := #[k0m0, k0m1]
  instanceTypes := #[]
  staticTypes := #[]
  resolved := Array.replicate 124 none
  statics := none }

def pool1 : Array CpInfo := pool [(2, .class_ 4), (0, .nameAndType 5 6), (0, u "java/lang/Object"), (0, u "<init>"), (0, u "()V"), (0, .fieldref 8 9), (0, .class_ 10), (0, .nameAndType 11 12), (0, u "com/example/invariant/invariant/Configuration"), (0, u "NONE"), (0, u "Lcom/example/invariant/invariant/Configuration;"), (0, .methodref 14 15), (0, .class_ 16), (0, .nameAndType 17 18), (0, u "com/example/invariant/invariant/State"), (0, u "blank"), (0, u "(ILcom/example/invariant/invariant/Configuration;)Lcom/example/invariant/invariant/State;"), (0, .class_ 20), (0, u "java/util/ArrayList"), (0, .methodref 19 3), (0, .methodref 19 23), (0, .nameAndType 24 25), (0, u "add"), (0, u "(Ljava/lang/Object;)Z"), (0, .class_ 27), (0, u "com/example/invariant/invariant/Trace"), (0, .methodref 26 29), (0, .nameAndType 5 30), (0, u "(Ljava/util/List;Ljava/util/List;)V"), (0, .methodref 26 32), (0, .nameAndType 33 34), (0, u "loops"), (0, u "()Z"), (0, .methodref 26 36), (0, .nameAndType 37 38), (0, u "stuttering"), (0, u "()Lcom/example/invariant/invariant/Trace;"), (0, .methodref 26 40), (0, .nameAndType 41 42), (0, u "loopingBack"), (0, u "(Lcom/example/invariant/invariant/Model$Occurrence;I)Lcom/example/invariant/invariant/Trace;"), (0, .methodref 26 44), (0, .nameAndType 45 46), (0, u "loop"), (0, u "()I"), (0, .class_ 48), (0, u "com/example/invariant/invariant/TraceLoopsPinLaw"), (2, u "law"), (0, u "(II)Z")] 9

def k1m0 : Method := { name := "<init>", desc := "()V", sig := { parameters := [], returnType := none }, accessFlags := 1, code := none }
def k1c1 : Code := { maxStack := 5, maxLocals := 8, code := code, exceptionTable := #[], attributes := #[] }
def k1m1 : Method := { name := "law", desc := "(II)Z", sig := { parameters := [.int, .int], returnType := some .boolean }, accessFlags := 9, code := some k1c1 }
/-- com/example/invariant/invariant/TraceLoopsPinLaw -/
def k1 : Class := { plain "com/example/invariant/invariant/TraceLoopsPinLaw" (some 0) with
  accessFlags := 49
  interfaces := #[]
  cf := some (fileOf pool1 47 #[] #[{ accessFlags := 1, nameIndex := 5, descriptorIndex := 6, attributes := #[] }, { accessFlags := 9, nameIndex := 51, descriptorIndex := 52, attributes := #[] }] 49 2 #[] #[])
  fields := #[]
  methods := #[k1m0, k1m1]
  instanceTypes := #[]
  staticTypes := #[]
  resolved := Array.replicate 62 none
  statics := none }

def pool2 : Array CpInfo := pool [(2, .class_ 4), (1, u "java/lang/Object"), (3, .class_ 10), (1, u "com/example/invariant/invariant/Configuration"), (0, u "names"), (0, u "Ljava/util/List;"), (3, u "[Lcom/example/invariant/invariant/Value;"), (4, u "values"), (4, u "hashCode"), (1, .fieldref 8 29), (0, .nameAndType 30 31), (0, u "hash"), (0, u "I"), (93, u "NONE"), (0, u "Lcom/example/invariant/invariant/Configuration;"), (12, u "()I")] 37

def k2c0 : Code := { maxStack := 1, maxLocals := 1, code := prog_15_method_7_code, exceptionTable := #[], attributes := #[] }
def k2m0 : Method := { name := "hashCode", desc := "()I", sig := { parameters := [], returnType := some .int }, accessFlags := 1, code := some k2c0 }
/-- com/example/invariant/invariant/Configuration -/
def k2 : Class := { plain "com/example/invariant/invariant/Configuration" (some 0) with
  accessFlags := 48
  interfaces := #[]
  cf := some (fileOf pool2 8 #[] #[{ accessFlags := 1, nameIndex := 26, descriptorIndex := 139, attributes := #[] }] 48 2 #[] #[{ accessFlags := 24, nameIndex := 125, descriptorIndex := 126, attributes := #[] }, { accessFlags := 18, nameIndex := 11, descriptorIndex := 12, attributes := #[] }, { accessFlags := 18, nameIndex := 21, descriptorIndex := 16, attributes := #[] }, { accessFlags := 18, nameIndex := 30, descriptorIndex := 31, attributes := #[] }])
  fields := #[{ name := "NONE", type := (.object "com/example/invariant/invariant/Configuration"), accessFlags := 24, slot := 0, constantValue := 0 }, { name := "names", type := (.object "java/util/List"), accessFlags := 18, slot := 0, constantValue := 0 }, { name := "values", type := (.array (.object "com/example/invariant/invariant/Value")), accessFlags := 18, slot := 1, constantValue := 0 }, { name := "hash", type := .int, accessFlags := 18, slot := 2, constantValue := 0 }]
  methods := #[k2m0]
  instanceTypes := #[(.object "java/util/List"), (.array (.object "com/example/invariant/invariant/Value")), .int]
  staticTypes := #[(.object "com/example/invariant/invariant/Configuration")]
  resolved := Array.replicate 177 none
  statics := some 0 }

def pool3 : Array CpInfo := pool [(1, .methodref 2 3), (0, .class_ 4), (0, .nameAndType 5 6), (0, u "java/lang/Object"), (0, u "<init>"), (0, u "()V"), (0, .fieldref 8 9), (0, .class_ 10), (0, .nameAndType 11 12), (0, u "com/example/invariant/invariant/State"), (0, u "configuration"), (0, u "Lcom/example/invariant/invariant/Configuration;"), (0, .fieldref 8 14), (0, .nameAndType 15 16), (0, u "values"), (0, u "[Lcom/example/invariant/invariant/Value;"), (0, .methodref 18 19), (0, .class_ 20), (0, .nameAndType 21 22), (0, u "com/example/invariant/invariant/Configuration"), (0, u "hashCode"), (0, u "()I"), (0, .methodref 24 25), (0, .class_ 26), (0, .nameAndType 21 27), (0, u "java/util/Arrays"), (0, u "([Ljava/lang/Object;)I"), (0, .fieldref 8 29), (0, .nameAndType 30 31), (0, u "hash"), (0, u "I"), (0, .class_ 33), (0, u "com/example/invariant/invariant/Value"), (0, .methodref 8 35), (0, .nameAndType 36 37), (0, u "of"), (0, u "(Lcom/example/invariant/invariant/Configuration;[Lcom/example/invariant/invariant/Value;)Lcom/example/invariant/invariant/State;"), (0, .string 11), (0, .methodref 40 41), (0, .class_ 42), (0, .nameAndType 43 44), (0, u "java/util/Objects"), (0, u "requireNonNull"), (0, u "(Ljava/lang/Object;Ljava/lang/String;)Ljava/lang/Object;"), (0, .methodref 8 46), (0, .nameAndType 5 47), (0, u "(Lcom/example/invariant/invariant/Configuration;[Lcom/example/invariant/invariant/Value;)V"), (14, u "blank"), (0, u "(ILcom/example/invariant/invariant/Configuration;)Lcom/example/invariant/invariant/State;")] 9

def k3c0 : Code := { maxStack := 3, maxLocals := 3, code := prog_96_method_1_code, exceptionTable := #[], attributes := #[] }
def k3m0 : Method := { name := "<init>", desc := "(Lcom/example/invariant/invariant/Configuration;[Lcom/example/invariant/invariant/Value;)V", sig := { parameters := [(.object "com/example/invariant/invariant/Configuration"), (.array (.object "com/example/invariant/invariant/Value"))], returnType := none }, accessFlags := 2, code := some k3c0 }
def k3c1 : Code := { maxStack := 2, maxLocals := 2, code := prog_96_method_2_code, exceptionTable := #[], attributes := #[] }
def k3m1 : Method := { name := "blank", desc := "(ILcom/example/invariant/invariant/Configuration;)Lcom/example/invariant/invariant/State;", sig := { parameters := [.int, (.object "com/example/invariant/invariant/Configuration")], returnType := some (.object "com/example/invariant/invariant/State") }, accessFlags := 8, code := some k3c1 }
def k3c2 : Code := { maxStack := 4, maxLocals := 2, code := prog_96_method_3_code, exceptionTable := #[], attributes := #[] }
def k3m2 : Method := { name := "of", desc := "(Lcom/example/invariant/invariant/Configuration;[Lcom/example/invariant/invariant/Value;)Lcom/example/invariant/invariant/State;", sig := { parameters := [(.object "com/example/invariant/invariant/Configuration"), (.array (.object "com/example/invariant/invariant/Value"))], returnType := some (.object "com/example/invariant/invariant/State") }, accessFlags := 8, code := some k3c2 }
/-- com/example/invariant/invariant/State -/
def k3 : Class := { plain "com/example/invariant/invariant/State" (some 0) with
  accessFlags := 48
  interfaces := #[]
  cf := some (fileOf pool3 8 #[] #[{ accessFlags := 2, nameIndex := 5, descriptorIndex := 47, attributes := #[] }, { accessFlags := 8, nameIndex := 62, descriptorIndex := 63, attributes := #[] }, { accessFlags := 8, nameIndex := 36, descriptorIndex := 37, attributes := #[] }] 48 2 #[] #[{ accessFlags := 18, nameIndex := 11, descriptorIndex := 12, attributes := #[] }, { accessFlags := 18, nameIndex := 15, descriptorIndex := 16, attributes := #[] }, { accessFlags := 18, nameIndex := 30, descriptorIndex := 31, attributes := #[] }])
  fields := #[{ name := "configuration", type := (.object "com/example/invariant/invariant/Configuration"), accessFlags := 18, slot := 0, constantValue := 0 }, { name := "values", type := (.array (.object "com/example/invariant/invariant/Value")), accessFlags := 18, slot := 1, constantValue := 0 }, { name := "hash", type := .int, accessFlags := 18, slot := 2, constantValue := 0 }]
  methods := #[k3m0, k3m1, k3m2]
  instanceTypes := #[(.object "com/example/invariant/invariant/Configuration"), (.array (.object "com/example/invariant/invariant/Value")), .int]
  staticTypes := #[]
  resolved := Array.replicate 73 none
  statics := none }

def pool4 : Array CpInfo := pool [(1, .class_ 2), (0, u "java/lang/Comparable"), (0, .class_ 4), (0, u "java/lang/Object")] 7

/-- java/lang/Comparable -/
def k4 : Class := { plain "java/lang/Comparable" (some 0) with
  accessFlags := 1537
  interfaces := #[]
  cf := some (fileOf pool4 1 #[] #[] 1537 3 #[] #[])
  fields := #[]
  methods := #[]
  instanceTypes := #[]
  staticTypes := #[]
  resolved := Array.replicate 12 none
  statics := none }

def pool5 : Array CpInfo := pool [(2, .class_ 4), (1, u "java/lang/Object"), (0, u "<init>"), (0, u "()V"), (1, .class_ 10), (1, u "com/example/invariant/invariant/Value"), (0, u "TRUE"), (0, u "Lcom/example/invariant/invariant/Value;"), (2, u "FALSE"), (0, .class_ 17), (0, u "com/example/invariant/invariant/Value$Int"), (3, .class_ 22), (0, u "com/example/invariant/invariant/Value$Pair"), (29, .class_ 53), (0, u "com/example/invariant/invariant/Value$Set"), (17, .class_ 72), (0, u "com/example/invariant/invariant/Value$Bool"), (11, u "EMPTY"), (0, u "Lcom/example/invariant/invariant/Value$Set;"), (0, .class_ 87), (0, u "java/lang/Comparable"), (20, .class_ 109), (0, u "com/example/invariant/invariant/Value$Element")] 26

def k5m0 : Method := { name := "<init>", desc := "()V", sig := { parameters := [], returnType := none }, accessFlags := 2, code := none }
/-- com/example/invariant/invariant/Value -/
def k5 : Class := { plain "com/example/invariant/invariant/Value" (some 0) with
  accessFlags := 1056
  interfaces := #[4]
  cf := some (fileOf pool5 8 #[.nestMembers #[52, 21, 108, 16, 71]] #[{ accessFlags := 2, nameIndex := 5, descriptorIndex := 6, attributes := #[] }] 1056 2 #[86] #[{ accessFlags := 24, nameIndex := 15, descriptorIndex := 12, attributes := #[] }, { accessFlags := 24, nameIndex := 11, descriptorIndex := 12, attributes := #[] }, { accessFlags := 24, nameIndex := 84, descriptorIndex := 85, attributes := #[] }])
  fields := #[{ name := "FALSE", type := (.object "com/example/invariant/invariant/Value"), accessFlags := 24, slot := 0, constantValue := 0 }, { name := "TRUE", type := (.object "com/example/invariant/invariant/Value"), accessFlags := 24, slot := 1, constantValue := 0 }, { name := "EMPTY", type := (.object "com/example/invariant/invariant/Value$Set"), accessFlags := 24, slot := 2, constantValue := 0 }]
  methods := #[k5m0]
  instanceTypes := #[]
  staticTypes := #[(.object "com/example/invariant/invariant/Value"), (.object "com/example/invariant/invariant/Value"), (.object "com/example/invariant/invariant/Value$Set")]
  resolved := Array.replicate 136 none
  statics := none }

def pool6 : Array CpInfo := pool [(1, .class_ 2), (0, u "java/io/Serializable"), (0, .class_ 4), (0, u "java/lang/Object")] 2

/-- java/io/Serializable -/
def k6 : Class := { plain "java/io/Serializable" (some 0) with
  accessFlags := 1537
  interfaces := #[]
  cf := some (fileOf pool6 1 #[] #[] 1537 3 #[] #[])
  fields := #[]
  methods := #[]
  instanceTypes := #[]
  staticTypes := #[]
  resolved := Array.replicate 7 none
  statics := none }

def pool7 : Array CpInfo := pool [(2, .class_ 4), (1, u "java/lang/CharSequence"), (42, .class_ 48), (0, u "java/lang/CharSequence$1CodePointIterator"), (10, .class_ 60), (0, u "java/lang/CharSequence$1CharIterator"), (5, .class_ 67), (0, u "java/lang/Object")] 63

/-- java/lang/CharSequence -/
def k7 : Class := { plain "java/lang/CharSequence" (some 0) with
  accessFlags := 1537
  interfaces := #[]
  cf := some (fileOf pool7 2 #[.nestMembers #[47, 59]] #[] 1537 66 #[] #[])
  fields := #[]
  methods := #[]
  instanceTypes := #[]
  staticTypes := #[]
  resolved := Array.replicate 131 none
  statics := none }

def pool8 : Array CpInfo := pool [(1, .class_ 2), (0, u "java/lang/constant/Constable"), (0, .class_ 4), (0, u "java/lang/Object")] 6

/-- java/lang/constant/Constable -/
def k8 : Class := { plain "java/lang/constant/Constable" (some 0) with
  accessFlags := 1537
  interfaces := #[]
  cf := some (fileOf pool8 1 #[] #[] 1537 3 #[] #[])
  fields := #[]
  methods := #[]
  instanceTypes := #[]
  staticTypes := #[]
  resolved := Array.replicate 11 none
  statics := none }

def pool9 : Array CpInfo := pool [(1, .class_ 2), (0, u "java/lang/constant/ConstantDesc"), (0, .class_ 4), (0, u "java/lang/Object")] 32

/-- java/lang/constant/ConstantDesc -/
def k9 : Class := { plain "java/lang/constant/ConstantDesc" (some 0) with
  accessFlags := 1537
  interfaces := #[]
  cf := some (fileOf pool9 1 #[] #[] 1537 3 #[] #[])
  fields := #[]
  methods := #[]
  instanceTypes := #[]
  staticTypes := #[]
  resolved := Array.replicate 37 none
  statics := none }

def pool10 : Array CpInfo := pool [(2, .class_ 4), (1, u "java/lang/Object"), (0, u "<init>"), (0, u "()V"), (3, .class_ 12), (1, u "java/lang/String"), (0, u "value"), (0, u "[B"), (2, u "coder"), (0, u "B"), (2, u "hash"), (0, u "I"), (2, u "hashIsZero"), (0, u "Z"), (13, u "COMPACT_STRINGS"), (534, .class_ 576), (0, u "java/lang/CharSequence"), (22, u "CASE_INSENSITIVE_ORDER"), (0, u "Ljava/util/Comparator;"), (500, u "serialPersistentFields"), (0, u "[Ljava/io/ObjectStreamField;"), (0, .class_ 1104), (0, u "java/lang/String$CaseInsensitiveComparator"), (1, .class_ 1107), (0, u "java/io/Serializable"), (0, .class_ 1109), (0, u "java/lang/Comparable"), (0, .class_ 1111), (0, u "java/lang/constant/Constable"), (0, .class_ 1113), (0, u "java/lang/constant/ConstantDesc"), (2, u "serialVersionUID"), (0, u "J"), (3, u "REPL"), (0, u "C"), (2, u "LATIN1"), (1, u "UTF16")] 323

def k10m0 : Method := { name := "<init>", desc := "()V", sig := { parameters := [], returnType := none }, accessFlags := 1, code := none }
/-- java/lang/String -/
def k10 : Class := { plain "java/lang/String" (some 0) with
  accessFlags := 49
  interfaces := #[6, 4, 7, 8, 9]
  cf := some (fileOf pool10 10 #[.nestMembers #[1103]] #[{ accessFlags := 1, nameIndex := 5, descriptorIndex := 6, attributes := #[] }] 49 2 #[1106, 1108, 575, 1110, 1112] #[{ accessFlags := 18, nameIndex := 13, descriptorIndex := 14, attributes := #[] }, { accessFlags := 18, nameIndex := 17, descriptorIndex := 18, attributes := #[] }, { accessFlags := 2, nameIndex := 21, descriptorIndex := 22, attributes := #[] }, { accessFlags := 2, nameIndex := 25, descriptorIndex := 26, attributes := #[] }, { accessFlags := 26, nameIndex := 1116, descriptorIndex := 1117, attributes := #[] }, { accessFlags := 24, nameIndex := 40, descriptorIndex := 26, attributes := #[] }, { accessFlags := 26, nameIndex := 1101, descriptorIndex := 1102, attributes := #[] }, { accessFlags := 26, nameIndex := 1121, descriptorIndex := 1122, attributes := #[] }, { accessFlags := 25, nameIndex := 599, descriptorIndex := 600, attributes := #[] }, { accessFlags := 24, nameIndex := 1125, descriptorIndex := 18, attributes := #[] }, { accessFlags := 24, nameIndex := 1127, descriptorIndex := 18, attributes := #[] }])
  fields := #[{ name := "value", type := (.array .byte), accessFlags := 18, slot := 0, constantValue := 0 }, { name := "coder", type := .byte, accessFlags := 18, slot := 1, constantValue := 0 }, { name := "hash", type := .int, accessFlags := 2, slot := 2, constantValue := 0 }, { name := "hashIsZero", type := .boolean, accessFlags := 2, slot := 3, constantValue := 0 }, { name := "serialVersionUID", type := .long, accessFlags := 26, slot := 0, constantValue := 0 }, { name := "COMPACT_STRINGS", type := .boolean, accessFlags := 24, slot := 1, constantValue := 0 }, { name := "serialPersistentFields", type := (.array (.object "java/io/ObjectStreamField")), accessFlags := 26, slot := 2, constantValue := 0 }, { name := "REPL", type := .char, accessFlags := 26, slot := 3, constantValue := 0 }, { name := "CASE_INSENSITIVE_ORDER", type := (.object "java/util/Comparator"), accessFlags := 25, slot := 4, constantValue := 0 }, { name := "LATIN1", type := .byte, accessFlags := 24, slot := 5, constantValue := 0 }, { name := "UTF16", type := .byte, accessFlags := 24, slot := 6, constantValue := 0 }]
  methods := #[k10m0]
  instanceTypes := #[(.array .byte), .byte, .int, .boolean]
  staticTypes := #[.long, .boolean, (.array (.object "java/io/ObjectStreamField")), .char, (.object "java/util/Comparator"), .byte, .byte]
  resolved := Array.replicate 1451 none
  statics := none }

def pool11 : Array CpInfo := pool [(2, .class_ 4), (1, u "java/lang/Object"), (0, u "<init>"), (0, u "()V"), (35, .class_ 44), (1, u "java/util/Objects"), (0, u "requireNonNull"), (0, u "(Ljava/lang/Object;)Ljava/lang/Object;"), (47, u "(Ljava/lang/Object;Ljava/lang/String;)Ljava/lang/Object;")] 89

def k11m0 : Method := { name := "<init>", desc := "()V", sig := { parameters := [], returnType := none }, accessFlags := 2, code := none }
def k11c1 : Code := { maxStack := 2, maxLocals := 1, code := jdk_31_method_10_code, exceptionTable := #[], attributes := #[] }
def k11m1 : Method := { name := "requireNonNull", desc := "(Ljava/lang/Object;)Ljava/lang/Object;", sig := { parameters := [(.object "java/lang/Object")], returnType := some (.object "java/lang/Object") }, accessFlags := 9, code := some k11c1 }
def k11c2 : Code := { maxStack := 3, maxLocals := 2, code := jdk_31_method_11_code, exceptionTable := #[], attributes := #[] }
def k11m2 : Method := { name := "requireNonNull", desc := "(Ljava/lang/Object;Ljava/lang/String;)Ljava/lang/Object;", sig := { parameters := [(.object "java/lang/Object"), (.object "java/lang/String")], returnType := some (.object "java/lang/Object") }, accessFlags := 9, code := some k11c2 }
/-- java/util/Objects -/
def k11 : Class := { plain "java/util/Objects" (some 0) with
  accessFlags := 49
  interfaces := #[]
  cf := some (fileOf pool11 42 #[] #[{ accessFlags := 2, nameIndex := 5, descriptorIndex := 6, attributes := #[] }, { accessFlags := 9, nameIndex := 45, descriptorIndex := 46, attributes := #[] }, { accessFlags := 9, nameIndex := 45, descriptorIndex := 94, attributes := #[] }] 49 2 #[] #[])
  fields := #[]
  methods := #[k11m0, k11m1, k11m2]
  instanceTypes := #[]
  staticTypes := #[]
  resolved := Array.replicate 184 none
  statics := none }

def pool12 : Array CpInfo := pool [(2, .class_ 4), (1, u "java/lang/Object"), (0, u "<init>"), (0, u "()V"), (7, .class_ 16), (1, u "java/util/Arrays"), (57, .class_ 76), (1, u "java/util/Arrays$NaturalOrder"), (9, .methodref 2 87), (0, .nameAndType 88 89), (0, u "getClass"), (0, u "()Ljava/lang/Class;"), (20, .class_ 111), (0, u "[Ljava/lang/Object;"), (1, .class_ 115), (1, u "java/util/Arrays$LegacyMergeSort"), (1, u "Z"), (32, .methodref 151 152), (0, .class_ 153), (0, .nameAndType 154 155), (0, u "java/lang/System"), (0, u "arraycopy"), (0, u "(Ljava/lang/Object;ILjava/lang/Object;II)V"), (144, .methodref 14 301), (0, .nameAndType 302 303), (0, u "copyOf"), (0, u "([Ljava/lang/Object;ILjava/lang/Class;)[Ljava/lang/Object;"), (0, .methodref 305 306), (0, .class_ 307), (0, .nameAndType 308 309), (0, u "java/lang/Math"), (0, u "min"), (0, u "(II)I"), (65, .class_ 376), (0, u "java/util/Arrays$ArrayList"), (8, u "hashCode"), (3, u "([Ljava/lang/Object;)I"), (55, u "$assertionsDisabled"), (269, u "MIN_ARRAY_SORT_GRAN"), (0, u "I"), (2, u "INSERTIONSORT_THRESHOLD"), (140, u "([Ljava/lang/Object;I)[Ljava/lang/Object;"), (114, .class_ 976), (0, u "java/util/Arrays$ArrayItr")] 52

def k12m0 : Method := { name := "<init>", desc := "()V", sig := { parameters := [], returnType := none }, accessFlags := 2, code := none }
def k12c1 : Code := { maxStack := 3, maxLocals := 2, code := jdk_65_method_119_code, exceptionTable := #[], attributes := #[] }
def k12m1 : Method := { name := "copyOf", desc := "([Ljava/lang/Object;I)[Ljava/lang/Object;", sig := { parameters := [(.array (.object "java/lang/Object")), .int], returnType := some (.array (.object "java/lang/Object")) }, accessFlags := 9, code := some k12c1 }
def k12c2 : Code := { maxStack := 6, maxLocals := 4, code := jdk_65_method_120_code, exceptionTable := #[], attributes := #[] }
def k12m2 : Method := { name := "copyOf", desc := "([Ljava/lang/Object;ILjava/lang/Class;)[Ljava/lang/Object;", sig := { parameters := [(.array (.object "java/lang/Object")), .int, (.object "java/lang/Class")], returnType := some (.array (.object "java/lang/Object")) }, accessFlags := 9, code := some k12c2 }
def k12c3 : Code := { maxStack := 2, maxLocals := 6, code := jdk_65_method_157_code, exceptionTable := #[], attributes := #[] }
def k12m3 : Method := { name := "hashCode", desc := "([Ljava/lang/Object;)I", sig := { parameters := [(.array (.object "java/lang/Object"))], returnType := some .int }, accessFlags := 9, code := some k12c3 }
/-- java/util/Arrays -/
def k12 : Class := { plain "java/util/Arrays" (some 0) with
  accessFlags := 49
  interfaces := #[]
  cf := some (fileOf pool12 14 #[.nestMembers #[975, 375, 113, 74]] #[{ accessFlags := 2, nameIndex := 5, descriptorIndex := 6, attributes := #[] }, { accessFlags := 9, nameIndex := 302, descriptorIndex := 860, attributes := #[] }, { accessFlags := 9, nameIndex := 302, descriptorIndex := 303, attributes := #[] }, { accessFlags := 9, nameIndex := 385, descriptorIndex := 389, attributes := #[] }] 49 2 #[] #[{ accessFlags := 26, nameIndex := 715, descriptorIndex := 716, attributes := #[] }, { accessFlags := 26, nameIndex := 719, descriptorIndex := 716, attributes := #[] }, { accessFlags := 4120, nameIndex := 445, descriptorIndex := 117, attributes := #[] }])
  fields := #[{ name := "MIN_ARRAY_SORT_GRAN", type := .int, accessFlags := 26, slot := 0, constantValue := 0 }, { name := "INSERTIONSORT_THRESHOLD", type := .int, accessFlags := 26, slot := 1, constantValue := 0 }, { name := "$assertionsDisabled", type := .boolean, accessFlags := 4120, slot := 2, constantValue := 0 }]
  methods := #[k12m0, k12m1, k12m2, k12m3]
  instanceTypes := #[]
  staticTypes := #[.int, .int, .boolean]
  resolved := Array.replicate 1029 none
  statics := none }

def pool13 : Array CpInfo := pool [(8, .class_ 10), (1, u "java/lang/Iterable"), (24, .class_ 36), (0, u "java/lang/Object")] 25

/-- java/lang/Iterable -/
def k13 : Class := { plain "java/lang/Iterable" (some 0) with
  accessFlags := 1537
  interfaces := #[]
  cf := some (fileOf pool13 8 #[] #[] 1537 35 #[] #[])
  fields := #[]
  methods := #[]
  instanceTypes := #[]
  staticTypes := #[]
  resolved := Array.replicate 62 none
  statics := none }

def pool14 : Array CpInfo := pool [(10, .class_ 12), (1, u "java/util/Collection"), (0, u "toArray"), (16, u "()Z"), (29, .class_ 61), (0, u "java/lang/Object"), (0, .class_ 63), (0, u "java/lang/Iterable"), (2, u "isEmpty"), (3, u "()[Ljava/lang/Object;")] 44

def k14m0 : Method := { name := "isEmpty", desc := "()Z", sig := { parameters := [], returnType := some .boolean }, accessFlags := 1025, code := none }
def k14m1 : Method := { name := "toArray", desc := "()[Ljava/lang/Object;", sig := { parameters := [], returnType := some (.array (.object "java/lang/Object")) }, accessFlags := 1025, code := none }
/-- java/util/Collection -/
def k14 : Class := { plain "java/util/Collection" (some 0) with
  accessFlags := 1537
  interfaces := #[13]
  cf := some (fileOf pool14 10 #[] #[{ accessFlags := 1025, nameIndex := 66, descriptorIndex := 30, attributes := #[] }, { accessFlags := 1025, nameIndex := 13, descriptorIndex := 70, attributes := #[] }] 1537 60 #[62] #[])
  fields := #[]
  methods := #[k14m0, k14m1]
  instanceTypes := #[]
  staticTypes := #[]
  resolved := Array.replicate 115 none
  statics := none }

def pool15 : Array CpInfo := pool [(1, .methodref 2 3), (0, .class_ 4), (0, .nameAndType 5 6), (0, u "java/lang/Object"), (0, u "<init>"), (0, u "()V"), (1, .class_ 10), (1, u "java/util/AbstractCollection"), (66, .class_ 78), (0, u "java/util/Collection")] 81

def k15c0 : Code := { maxStack := 1, maxLocals := 1, code := jdk_22_method_1_code, exceptionTable := #[], attributes := #[] }
def k15m0 : Method := { name := "<init>", desc := "()V", sig := { parameters := [], returnType := none }, accessFlags := 4, code := some k15c0 }
/-- java/util/AbstractCollection -/
def k15 : Class := { plain "java/util/AbstractCollection" (some 0) with
  accessFlags := 1057
  interfaces := #[14]
  cf := some (fileOf pool15 8 #[] #[{ accessFlags := 4, nameIndex := 5, descriptorIndex := 6, attributes := #[] }] 1057 2 #[77] #[])
  fields := #[]
  methods := #[k15m0]
  instanceTypes := #[]
  staticTypes := #[]
  resolved := Array.replicate 160 none
  statics := none }

def pool16 : Array CpInfo := pool [(8, .class_ 10), (1, u "java/util/SequencedCollection"), (15, .class_ 27), (0, u "java/lang/Object"), (0, .class_ 29), (0, u "java/util/Collection")] 27

/-- java/util/SequencedCollection -/
def k16 : Class := { plain "java/util/SequencedCollection" (some 0) with
  accessFlags := 1537
  interfaces := #[14]
  cf := some (fileOf pool16 8 #[] #[] 1537 26 #[28] #[])
  fields := #[]
  methods := #[]
  instanceTypes := #[]
  staticTypes := #[]
  resolved := Array.replicate 57 none
  statics := none }

def pool17 : Array CpInfo := pool [(8, .class_ 10), (1, u "java/util/List"), (20, u "(Ljava/lang/Object;)V"), (16, u "<init>"), (30, u "size"), (0, u "()I"), (7, u "of"), (1, .fieldref 91 92), (0, .class_ 93), (0, .nameAndType 94 95), (0, u "java/util/ImmutableCollections"), (0, u "EMPTY_LIST"), (0, u "Ljava/util/ImmutableCollections$ListN;"), (0, .class_ 97), (0, u "java/util/ImmutableCollections$List12"), (0, .methodref 96 99), (0, .nameAndType 48 31), (3, .class_ 104), (0, u "java/lang/Object"), (3, u "([Ljava/lang/Object;)Ljava/util/List;"), (3, .methodref 91 113), (0, .nameAndType 114 115), (0, u "listCopy"), (0, u "(Ljava/util/Collection;)Ljava/util/List;"), (3, u "()Ljava/util/List;"), (0, .class_ 121), (0, u "java/util/SequencedCollection"), (112, u "copyOf")] 16

def k17m0 : Method := { name := "size", desc := "()I", sig := { parameters := [], returnType := some .int }, accessFlags := 1025, code := none }
def k17c1 : Code := { maxStack := 1, maxLocals := 0, code := jdk_40_method_36_code, exceptionTable := #[], attributes := #[] }
def k17m1 : Method := { name := "of", desc := "()Ljava/util/List;", sig := { parameters := [], returnType := some (.object "java/util/List") }, accessFlags := 9, code := some k17c1 }
def k17c2 : Code := { maxStack := 5, maxLocals := 2, code := jdk_40_method_47_code, exceptionTable := #[], attributes := #[] }
def k17m2 : Method := { name := "of", desc := "([Ljava/lang/Object;)Ljava/util/List;", sig := { parameters := [(.array (.object "java/lang/Object"))], returnType := some (.object "java/util/List") }, accessFlags := 137, code := some k17c2 }
def k17c3 : Code := { maxStack := 1, maxLocals := 1, code := jdk_40_method_48_code, exceptionTable := #[], attributes := #[] }
def k17m3 : Method := { name := "copyOf", desc := "(Ljava/util/Collection;)Ljava/util/List;", sig := { parameters := [(.object "java/util/Collection")], returnType := some (.object "java/util/List") }, accessFlags := 9, code := some k17c3 }
/-- java/util/List -/
def k17 : Class := { plain "java/util/List" (some 0) with
  accessFlags := 1537
  interfaces := #[16]
  cf := some (fileOf pool17 8 #[] #[{ accessFlags := 1025, nameIndex := 79, descriptorIndex := 80, attributes := #[] }, { accessFlags := 9, nameIndex := 88, descriptorIndex := 119, attributes := #[] }, { accessFlags := 137, nameIndex := 88, descriptorIndex := 108, attributes := #[] }, { accessFlags := 9, nameIndex := 234, descriptorIndex := 115, attributes := #[] }] 1537 103 #[120] #[])
  fields := #[]
  methods := #[k17m0, k17m1, k17m2, k17m3]
  instanceTypes := #[]
  staticTypes := #[]
  resolved := Array.replicate 251 none
  statics := none }

def pool18 : Array CpInfo := pool [(1, .methodref 2 3), (0, .class_ 4), (0, .nameAndType 5 6), (0, u "java/util/AbstractCollection"), (0, u "<init>"), (0, u "()V"), (0, .fieldref 8 9), (0, .class_ 10), (0, .nameAndType 11 12), (0, u "java/util/AbstractList"), (0, u "modCount"), (0, u "I"), (64, .class_ 78), (0, u "java/util/AbstractList$Itr"), (3, .class_ 83), (0, u "java/util/AbstractList$ListItr"), (9, .class_ 94), (0, u "java/util/AbstractList$RandomAccessSubList"), (3, .class_ 99), (0, u "java/util/AbstractList$SubList"), (33, .class_ 134), (0, u "java/util/List"), (73, .class_ 209), (0, u "java/util/AbstractList$SubList$1"), (0, .class_ 211), (0, u "java/util/AbstractList$RandomAccessSpliterator")] 6

def k18c0 : Code := { maxStack := 2, maxLocals := 1, code := jdk_39_method_1_code, exceptionTable := #[], attributes := #[] }
def k18m0 : Method := { name := "<init>", desc := "()V", sig := { parameters := [], returnType := none }, accessFlags := 4, code := some k18c0 }
/-- java/util/AbstractList -/
def k18 : Class := { plain "java/util/AbstractList" (some 15) with
  accessFlags := 1057
  interfaces := #[17]
  cf := some (fileOf pool18 8 #[.nestMembers #[93, 98, 208, 210, 82, 77]] #[{ accessFlags := 4, nameIndex := 5, descriptorIndex := 6, attributes := #[] }] 1057 2 #[133] #[{ accessFlags := 132, nameIndex := 11, descriptorIndex := 12, attributes := #[] }])
  fields := #[{ name := "modCount", type := .int, accessFlags := 132, slot := 0, constantValue := 0 }]
  methods := #[k18m0]
  instanceTypes := #[.int]
  staticTypes := #[]
  resolved := Array.replicate 218 none
  statics := none }

def pool19 : Array CpInfo := pool [(1, .class_ 2), (0, u "java/util/RandomAccess"), (0, .class_ 4), (0, u "java/lang/Object")] 2

/-- java/util/RandomAccess -/
def k19 : Class := { plain "java/util/RandomAccess" (some 0) with
  accessFlags := 1537
  interfaces := #[]
  cf := some (fileOf pool19 1 #[] #[] 1537 3 #[] #[])
  fields := #[]
  methods := #[]
  instanceTypes := #[]
  staticTypes := #[]
  resolved := Array.replicate 7 none
  statics := none }

def pool20 : Array CpInfo := pool [(1, .class_ 2), (0, u "java/lang/Cloneable"), (0, .class_ 4), (0, u "java/lang/Object")] 2

/-- java/lang/Cloneable -/
def k20 : Class := { plain "java/lang/Cloneable" (some 0) with
  accessFlags := 1537
  interfaces := #[]
  cf := some (fileOf pool20 1 #[] #[] 1537 3 #[] #[])
  fields := #[]
  methods := #[]
  instanceTypes := #[]
  staticTypes := #[]
  resolved := Array.replicate 7 none
  statics := none }

def pool21 : Array CpInfo := pool [(1, .methodref 2 3), (0, .class_ 4), (0, .nameAndType 5 6), (0, u "java/util/AbstractList"), (0, u "<init>"), (0, u "()V"), (0, .class_ 8), (0, u "java/lang/Object"), (0, .fieldref 10 11), (0, .class_ 12), (0, .nameAndType 13 14), (0, u "java/util/ArrayList"), (0, u "elementData"), (0, u "[Ljava/lang/Object;"), (2, u "EMPTY_ELEMENTDATA"), (21, .fieldref 10 40), (0, .nameAndType 41 14), (0, u "DEFAULTCAPACITY_EMPTY_ELEMENTDATA"), (4, u "toArray"), (0, u "()[Ljava/lang/Object;"), (0, .fieldref 10 49), (0, .nameAndType 50 51), (0, u "size"), (0, u "I"), (6, .class_ 60), (1, u "java/util/Arrays"), (0, u "copyOf"), (1, .fieldref 10 64), (0, .nameAndType 65 51), (0, u "modCount"), (0, .methodref 58 67), (0, .nameAndType 61 68), (0, u "([Ljava/lang/Object;I)[Ljava/lang/Object;"), (0, .methodref 10 70), (0, .nameAndType 71 72), (0, u "grow"), (0, u "(I)[Ljava/lang/Object;"), (6, .methodref 80 81), (0, .class_ 82), (0, .nameAndType 83 84), (0, u "java/lang/Math"), (0, u "max"), (0, u "(II)I"), (11, u "(Ljava/lang/Object;)Z"), (32, .methodref 10 130), (0, .nameAndType 71 47), (0, .methodref 10 132), (0, .nameAndType 133 134), (0, u "add"), (0, u "(Ljava/lang/Object;[Ljava/lang/Object;I)V"), (13, .class_ 149), (0, u "java/util/List"), (23, u "()Z"), (12, u "()I"), (75, .class_ 263), (0, u "java/util/ArrayList$ListItr"), (3, .class_ 268), (0, u "java/util/ArrayList$Itr"), (7, .class_ 277), (0, u "java/util/ArrayList$SubList"), (12, .class_ 291), (0, u "java/util/ArrayList$ArrayListSpliterator"), (37, .class_ 330), (0, u "java/util/RandomAccess"), (0, .class_ 332), (0, u "java/lang/Cloneable"), (0, .class_ 334), (0, u "java/io/Serializable"), (0, u "serialVersionUID"), (0, u "J"), (3, u "DEFAULT_CAPACITY"), (22, u "isEmpty"), (136, .class_ 501), (0, u "java/util/ArrayList$SubList$2"), (0, .class_ 503), (0, u "java/util/ArrayList$SubList$1")] 5

def k21c0 : Code := { maxStack := 2, maxLocals := 1, code := jdk_38_method_2_code, exceptionTable := #[], attributes := #[] }
def k21m0 : Method := { name := "<init>", desc := "()V", sig := { parameters := [], returnType := none }, accessFlags := 1, code := some k21c0 }
def k21c1 : Code := { maxStack := 4, maxLocals := 4, code := jdk_38_method_6_code, exceptionTable := #[], attributes := #[] }
def k21m1 : Method := { name := "grow", desc := "(I)[Ljava/lang/Object;", sig := { parameters := [.int], returnType := some (.array (.object "java/lang/Object")) }, accessFlags := 2, code := some k21c1 }
def k21c2 : Code := { maxStack := 3, maxLocals := 1, code := jdk_38_method_7_code, exceptionTable := #[], attributes := #[] }
def k21m2 : Method := { name := "grow", desc := "()[Ljava/lang/Object;", sig := { parameters := [], returnType := some (.array (.object "java/lang/Object")) }, accessFlags := 2, code := some k21c2 }
def k21c3 : Code := { maxStack := 1, maxLocals := 1, code := jdk_38_method_8_code, exceptionTable := #[], attributes := #[] }
def k21m3 : Method := { name := "size", desc := "()I", sig := { parameters := [], returnType := some .int }, accessFlags := 1, code := some k21c3 }
def k21c4 : Code := { maxStack := 1, maxLocals := 1, code := jdk_38_method_9_code, exceptionTable := #[], attributes := #[] }
def k21m4 : Method := { name := "isEmpty", desc := "()Z", sig := { parameters := [], returnType := some .boolean }, accessFlags := 1, code := some k21c4 }
def k21c5 : Code := { maxStack := 2, maxLocals := 1, code := jdk_38_method_16_code, exceptionTable := #[], attributes := #[] }
def k21m5 : Method := { name := "toArray", desc := "()[Ljava/lang/Object;", sig := { parameters := [], returnType := some (.array (.object "java/lang/Object")) }, accessFlags := 1, code := some k21c5 }
def k21c6 : Code := { maxStack := 3, maxLocals := 4, code := jdk_38_method_24_code, exceptionTable := #[], attributes := #[] }
def k21m6 : Method := { name := "add", desc := "(Ljava/lang/Object;[Ljava/lang/Object;I)V", sig := { parameters := [(.object "java/lang/Object"), (.array (.object "java/lang/Object")), .int], returnType := none }, accessFlags := 2, code := some k21c6 }
def k21c7 : Code := { maxStack := 4, maxLocals := 2, code := jdk_38_method_25_code, exceptionTable := #[], attributes := #[] }
def k21m7 : Method := { name := "add", desc := "(Ljava/lang/Object;)Z", sig := { parameters := [(.object "java/lang/Object")], returnType := some .boolean }, accessFlags := 1, code := some k21c7 }
/-- java/util/ArrayList -/
def k21 : Class := { plain "java/util/ArrayList" (some 18) with
  accessFlags := 33
  interfaces := #[17, 19, 20, 6]
  cf := some (fileOf pool21 10 #[.nestMembers #[290, 276, 500, 502, 262, 267]] #[{ accessFlags := 1, nameIndex := 5, descriptorIndex := 6, attributes := #[] }, { accessFlags := 2, nameIndex := 71, descriptorIndex := 72, attributes := #[] }, { accessFlags := 2, nameIndex := 71, descriptorIndex := 47, attributes := #[] }, { accessFlags := 1, nameIndex := 50, descriptorIndex := 186, attributes := #[] }, { accessFlags := 1, nameIndex := 363, descriptorIndex := 173, attributes := #[] }, { accessFlags := 1, nameIndex := 46, descriptorIndex := 47, attributes := #[] }, { accessFlags := 2, nameIndex := 133, descriptorIndex := 134, attributes := #[] }, { accessFlags := 1, nameIndex := 133, descriptorIndex := 96, attributes := #[] }] 33 2 #[148, 329, 331, 333] #[{ accessFlags := 26, nameIndex := 335, descriptorIndex := 336, attributes := #[] }, { accessFlags := 26, nameIndex := 340, descriptorIndex := 51, attributes := #[] }, { accessFlags := 26, nameIndex := 17, descriptorIndex := 14, attributes := #[] }, { accessFlags := 26, nameIndex := 41, descriptorIndex := 14, attributes := #[] }, { accessFlags := 128, nameIndex := 13, descriptorIndex := 14, attributes := #[] }, { accessFlags := 2, nameIndex := 50, descriptorIndex := 51, attributes := #[] }])
  fields := #[{ name := "serialVersionUID", type := .long, accessFlags := 26, slot := 0, constantValue := 0 }, { name := "DEFAULT_CAPACITY", type := .int, accessFlags := 26, slot := 1, constantValue := 0 }, { name := "EMPTY_ELEMENTDATA", type := (.array (.object "java/lang/Object")), accessFlags := 26, slot := 2, constantValue := 0 }, { name := "DEFAULTCAPACITY_EMPTY_ELEMENTDATA", type := (.array (.object "java/lang/Object")), accessFlags := 26, slot := 3, constantValue := 0 }, { name := "elementData", type := (.array (.object "java/lang/Object")), accessFlags := 128, slot := 1, constantValue := 0 }, { name := "size", type := .int, accessFlags := 2, slot := 2, constantValue := 0 }]
  methods := #[k21m0, k21m1, k21m2, k21m3, k21m4, k21m5, k21m6, k21m7]
  instanceTypes := #[.int, (.array (.object "java/lang/Object")), .int]
  staticTypes := #[.long, .int, (.array (.object "java/lang/Object")), (.array (.object "java/lang/Object"))]
  resolved := Array.replicate 509 none
  statics := some 1 }

def pool22 : Array CpInfo := pool [(1, .class_ 2), (0, u "java/lang/Math"), (1, .class_ 6), (1, u "java/lang/Object"), (0, u "<init>"), (0, u "()V"), (89, .class_ 100), (1, u "java/lang/Math$RandomNumberGeneratorHolder"), (71, u "negativeZeroFloatBits"), (0, u "J"), (2, u "negativeZeroDoubleBits"), (21, u "max"), (2, u "min"), (43, u "$assertionsDisabled"), (0, u "Z"), (88, u "(II)I"), (2, u "twoToTheDoubleScaleDown"), (0, u "D"), (4, u "twoToTheDoubleScaleUp"), (9, u "E"), (3, u "PI"), (2, u "TAU"), (2, u "DEGREES_TO_RADIANS"), (0, u "RADIANS_TO_DEGREES")] 94

def k22m0 : Method := { name := "<init>", desc := "()V", sig := { parameters := [], returnType := none }, accessFlags := 2, code := none }
def k22c1 : Code := { maxStack := 2, maxLocals := 2, code := jdk_29_method_65_code, exceptionTable := #[], attributes := #[] }
def k22m1 : Method := { name := "max", desc := "(II)I", sig := { parameters := [.int, .int], returnType := some .int }, accessFlags := 9, code := some k22c1 }
def k22c2 : Code := { maxStack := 2, maxLocals := 2, code := jdk_29_method_69_code, exceptionTable := #[], attributes := #[] }
def k22m2 : Method := { name := "min", desc := "(II)I", sig := { parameters := [.int, .int], returnType := some .int }, accessFlags := 9, code := some k22c2 }
/-- java/lang/Math -/
def k22 : Class := { plain "java/lang/Math" (some 0) with
  accessFlags := 49
  interfaces := #[]
  cf := some (fileOf pool22 1 #[.nestMembers #[98]] #[{ accessFlags := 2, nameIndex := 7, descriptorIndex := 8, attributes := #[] }, { accessFlags := 9, nameIndex := 198, descriptorIndex := 335, attributes := #[] }, { accessFlags := 9, nameIndex := 201, descriptorIndex := 335, attributes := #[] }] 49 4 #[] #[{ accessFlags := 25, nameIndex := 354, descriptorIndex := 339, attributes := #[] }, { accessFlags := 25, nameIndex := 358, descriptorIndex := 339, attributes := #[] }, { accessFlags := 25, nameIndex := 361, descriptorIndex := 339, attributes := #[] }, { accessFlags := 26, nameIndex := 364, descriptorIndex := 339, attributes := #[] }, { accessFlags := 26, nameIndex := 365, descriptorIndex := 339, attributes := #[] }, { accessFlags := 26, nameIndex := 172, descriptorIndex := 173, attributes := #[] }, { accessFlags := 26, nameIndex := 176, descriptorIndex := 173, attributes := #[] }, { accessFlags := 8, nameIndex := 344, descriptorIndex := 339, attributes := #[] }, { accessFlags := 8, nameIndex := 338, descriptorIndex := 339, attributes := #[] }, { accessFlags := 4120, nameIndex := 245, descriptorIndex := 246, attributes := #[] }])
  fields := #[{ name := "E", type := .double, accessFlags := 25, slot := 0, constantValue := 0 }, { name := "PI", type := .double, accessFlags := 25, slot := 1, constantValue := 0 }, { name := "TAU", type := .double, accessFlags := 25, slot := 2, constantValue := 0 }, { name := "DEGREES_TO_RADIANS", type := .double, accessFlags := 26, slot := 3, constantValue := 0 }, { name := "RADIANS_TO_DEGREES", type := .double, accessFlags := 26, slot := 4, constantValue := 0 }, { name := "negativeZeroFloatBits", type := .long, accessFlags := 26, slot := 5, constantValue := 0 }, { name := "negativeZeroDoubleBits", type := .long, accessFlags := 26, slot := 6, constantValue := 0 }, { name := "twoToTheDoubleScaleUp", type := .double, accessFlags := 8, slot := 7, constantValue := 0 }, { name := "twoToTheDoubleScaleDown", type := .double, accessFlags := 8, slot := 8, constantValue := 0 }, { name := "$assertionsDisabled", type := .boolean, accessFlags := 4120, slot := 9, constantValue := 0 }]
  methods := #[k22m0, k22m1, k22m2]
  instanceTypes := #[]
  staticTypes := #[.double, .double, .double, .double, .double, .long, .long, .double, .double, .boolean]
  resolved := Array.replicate 460 none
  statics := none }

def pool23 : Array CpInfo := pool [(1, .class_ 2), (0, u "com/example/invariant/invariant/Trace"), (0, .methodref 1 4), (0, .nameAndType 5 6), (0, u "<init>"), (0, u "(Ljava/util/List;Ljava/util/List;Lcom/example/invariant/invariant/Model$Occurrence;I)V"), (0, .methodref 8 9), (0, .class_ 10), (0, .nameAndType 5 11), (0, u "java/lang/Object"), (0, u "()V"), (0, .interfaceMethodref 13 14), (0, .class_ 15), (0, .nameAndType 16 17), (0, u "java/util/List"), (0, u "size"), (0, u "()I"), (10, .interfaceMethodref 13 29), (0, .nameAndType 30 31), (0, u "copyOf"), (0, u "(Ljava/util/Collection;)Ljava/util/List;"), (0, .fieldref 1 33), (0, .nameAndType 34 35), (0, u "states"), (0, u "Ljava/util/List;"), (0, .fieldref 1 37), (0, .nameAndType 38 35), (0, u "steps"), (0, .fieldref 1 40), (0, .nameAndType 41 42), (0, u "loopStep"), (0, u "Lcom/example/invariant/invariant/Model$Occurrence;"), (0, .fieldref 1 44), (0, .nameAndType 45 46), (0, u "loop"), (0, u "I"), (0, .methodref 1 48), (0, .nameAndType 49 50), (0, u "loops"), (0, u "()Z"), (22, u "(Ljava/util/List;Ljava/util/List;)V"), (0, .methodref 1 75), (0, .nameAndType 76 77), (0, u "loopingBack"), (0, u "(Lcom/example/invariant/invariant/Model$Occurrence;I)Lcom/example/invariant/invariant/Trace;"), (7, u "NO_LOOP"), (12, u "stuttering"), (0, u "()Lcom/example/invariant/invariant/Trace;")] 28

def k23c0 : Code := { maxStack := 5, maxLocals := 3, code := prog_114_method_1_code, exceptionTable := #[], attributes := #[] }
def k23m0 : Method := { name := "<init>", desc := "(Ljava/util/List;Ljava/util/List;)V", sig := { parameters := [(.object "java/util/List"), (.object "java/util/List")], returnType := none }, accessFlags := 0, code := some k23c0 }
def k23c1 : Code := { maxStack := 4, maxLocals := 5, code := prog_114_method_2_code, exceptionTable := #[], attributes := #[] }
def k23m1 : Method := { name := "<init>", desc := "(Ljava/util/List;Ljava/util/List;Lcom/example/invariant/invariant/Model$Occurrence;I)V", sig := { parameters := [(.object "java/util/List"), (.object "java/util/List"), (.object "com/example/invariant/invariant/Model$Occurrence"), .int], returnType := none }, accessFlags := 2, code := some k23c1 }
def k23c2 : Code := { maxStack := 4, maxLocals := 1, code := prog_114_method_4_code, exceptionTable := #[], attributes := #[] }
def k23m2 : Method := { name := "stuttering", desc := "()Lcom/example/invariant/invariant/Trace;", sig := { parameters := [], returnType := some (.object "com/example/invariant/invariant/Trace") }, accessFlags := 0, code := some k23c2 }
def k23c3 : Code := { maxStack := 6, maxLocals := 3, code := prog_114_method_5_code, exceptionTable := #[], attributes := #[] }
def k23m3 : Method := { name := "loopingBack", desc := "(Lcom/example/invariant/invariant/Model$Occurrence;I)Lcom/example/invariant/invariant/Trace;", sig := { parameters := [(.object "com/example/invariant/invariant/Model$Occurrence"), .int], returnType := some (.object "com/example/invariant/invariant/Trace") }, accessFlags := 0, code := some k23c3 }
def k23c4 : Code := { maxStack := 2, maxLocals := 1, code := prog_114_method_8_code, exceptionTable := #[], attributes := #[] }
def k23m4 : Method := { name := "loops", desc := "()Z", sig := { parameters := [], returnType := some .boolean }, accessFlags := 0, code := some k23c4 }
def k23c5 : Code := { maxStack := 3, maxLocals := 1, code := prog_114_method_10_code, exceptionTable := #[], attributes := #[] }
def k23m5 : Method := { name := "loop", desc := "()I", sig := { parameters := [], returnType := some .int }, accessFlags := 0, code := some k23c5 }
/-- com/example/invariant/invariant/Trace -/
def k23 : Class := { plain "com/example/invariant/invariant/Trace" (some 0) with
  accessFlags := 48
  interfaces := #[]
  cf := some (fileOf pool23 1 #[] #[{ accessFlags := 0, nameIndex := 5, descriptorIndex := 73, attributes := #[] }, { accessFlags := 2, nameIndex := 5, descriptorIndex := 6, attributes := #[] }, { accessFlags := 0, nameIndex := 98, descriptorIndex := 99, attributes := #[] }, { accessFlags := 0, nameIndex := 76, descriptorIndex := 77, attributes := #[] }, { accessFlags := 0, nameIndex := 49, descriptorIndex := 50, attributes := #[] }, { accessFlags := 0, nameIndex := 45, descriptorIndex := 17, attributes := #[] }] 48 8 #[] #[{ accessFlags := 26, nameIndex := 85, descriptorIndex := 46, attributes := #[] }, { accessFlags := 18, nameIndex := 34, descriptorIndex := 35, attributes := #[] }, { accessFlags := 18, nameIndex := 38, descriptorIndex := 35, attributes := #[] }, { accessFlags := 18, nameIndex := 41, descriptorIndex := 42, attributes := #[] }, { accessFlags := 18, nameIndex := 45, descriptorIndex := 46, attributes := #[] }])
  fields := #[{ name := "NO_LOOP", type := .int, accessFlags := 26, slot := 0, constantValue := 0 }, { name := "states", type := (.object "java/util/List"), accessFlags := 18, slot := 0, constantValue := 0 }, { name := "steps", type := (.object "java/util/List"), accessFlags := 18, slot := 1, constantValue := 0 }, { name := "loopStep", type := (.object "com/example/invariant/invariant/Model$Occurrence"), accessFlags := 18, slot := 2, constantValue := 0 }, { name := "loop", type := .int, accessFlags := 18, slot := 3, constantValue := 0 }]
  methods := #[k23m0, k23m1, k23m2, k23m3, k23m4, k23m5]
  instanceTypes := #[(.object "java/util/List"), (.object "java/util/List"), (.object "com/example/invariant/invariant/Model$Occurrence"), .int]
  staticTypes := #[.int]
  resolved := Array.replicate 128 none
  statics := none }

def pool24 : Array CpInfo := pool [(2, .class_ 4), (1, u "java/lang/Object"), (0, u "<init>"), (0, u "()V"), (3, .class_ 11), (0, u "java/util/ImmutableCollections$List12"), (0, .class_ 13), (0, u "java/util/ImmutableCollections$ListN"), (0, .fieldref 12 15), (0, .nameAndType 16 17), (0, u "allowNulls"), (0, u "Z"), (0, .class_ 19), (0, u "java/util/List"), (0, .interfaceMethodref 21 22), (0, .class_ 23), (0, .nameAndType 24 25), (0, u "java/util/Collection"), (0, u "isEmpty"), (0, u "()Z"), (0, .interfaceMethodref 18 27), (0, .nameAndType 28 29), (0, u "of"), (0, u "()Ljava/util/List;"), (0, .interfaceMethodref 21 31), (0, .nameAndType 32 33), (0, u "toArray"), (0, u "()[Ljava/lang/Object;"), (0, .interfaceMethodref 18 35), (0, .nameAndType 28 36), (0, u "([Ljava/lang/Object;)Ljava/util/List;"), (10, .class_ 49), (1, u "java/util/ImmutableCollections"), (0, u "$assertionsDisabled"), (5, u "[Ljava/lang/Object;"), (5, u "EMPTY_LIST"), (0, u "Ljava/util/ImmutableCollections$ListN;"), (8, u "EMPTY_LIST_NULLS"), (22, u "SALT32L"), (0, u "J"), (2, u "REVERSE"), (6, u "archivedObjects"), (2, u "EMPTY"), (0, u "Ljava/lang/Object;"), (0, .class_ 112), (0, u "java/util/ImmutableCollections$SetN"), (5, u "EMPTY_SET"), (0, u "Ljava/util/ImmutableCollections$SetN;"), (0, .class_ 121), (0, u "java/util/ImmutableCollections$MapN"), (3, u "EMPTY_MAP"), (0, u "Ljava/util/ImmutableCollections$MapN;"), (4, u "EXPAND_FACTOR"), (0, u "I"), (9, u "listCopy"), (0, u "(Ljava/util/Collection;)Ljava/util/List;"), (25, .class_ 170), (0, u "java/util/ImmutableCollections$MapN$MapNIterator"), (0, .class_ 172), (0, u "java/util/ImmutableCollections$MapN$1"), (0, .class_ 174), (0, u "java/util/ImmutableCollections$Map1"), (0, .class_ 176), (0, u "java/util/ImmutableCollections$AbstractImmutableMap"), (0, .class_ 178), (0, u "java/util/ImmutableCollections$SetN$SetNIterator"), (0, .class_ 180), (0, u "java/util/ImmutableCollections$Set12"), (0, .class_ 182), (0, u "java/util/ImmutableCollections$Set12$1"), (0, .class_ 184), (0, u "java/util/ImmutableCollections$AbstractImmutableSet"), (0, .class_ 186), (0, u "java/util/ImmutableCollections$SubList"), (0, .class_ 188), (0, u "java/util/ImmutableCollections$ListItr"), (0, .class_ 190), (0, u "java/util/ImmutableCollections$AbstractImmutableList"), (0, .class_ 192), (0, u "java/util/ImmutableCollections$AbstractImmutableCollection"), (0, .class_ 194), (0, u "java/util/ImmutableCollections$Access"), (0, .class_ 196), (0, u "java/util/ImmutableCollections$Access$1")] 16

def k24m0 : Method := { name := "<init>", desc := "()V", sig := { parameters := [], returnType := none }, accessFlags := 2, code := none }
def k24c1 : Code := { maxStack := 1, maxLocals := 2, code := jdk_56_method_3_code, exceptionTable := #[], attributes := #[] }
def k24m1 : Method := { name := "listCopy", desc := "(Ljava/util/Collection;)Ljava/util/List;", sig := { parameters := [(.object "java/util/Collection")], returnType := some (.object "java/util/List") }, accessFlags := 8, code := some k24c1 }
/-- java/util/ImmutableCollections -/
def k24 : Class := { plain "java/util/ImmutableCollections" (some 0) with
  accessFlags := 32
  interfaces := #[]
  cf := some (fileOf pool24 47 #[.nestMembers #[120, 169, 171, 173, 175, 111, 177, 179, 181, 183, 12, 10, 185, 187, 189, 191, 193, 195]] #[{ accessFlags := 2, nameIndex := 5, descriptorIndex := 6, attributes := #[] }, { accessFlags := 8, nameIndex := 142, descriptorIndex := 143, attributes := #[] }] 32 2 #[] #[{ accessFlags := 26, nameIndex := 95, descriptorIndex := 96, attributes := #[] }, { accessFlags := 26, nameIndex := 99, descriptorIndex := 17, attributes := #[] }, { accessFlags := 10, nameIndex := 106, descriptorIndex := 56, attributes := #[] }, { accessFlags := 26, nameIndex := 109, descriptorIndex := 110, attributes := #[] }, { accessFlags := 24, nameIndex := 62, descriptorIndex := 63, attributes := #[] }, { accessFlags := 24, nameIndex := 72, descriptorIndex := 63, attributes := #[] }, { accessFlags := 24, nameIndex := 118, descriptorIndex := 119, attributes := #[] }, { accessFlags := 24, nameIndex := 125, descriptorIndex := 126, attributes := #[] }, { accessFlags := 24, nameIndex := 131, descriptorIndex := 132, attributes := #[] }, { accessFlags := 4120, nameIndex := 50, descriptorIndex := 17, attributes := #[] }])
  fields := #[{ name := "SALT32L", type := .long, accessFlags := 26, slot := 0, constantValue := 0 }, { name := "REVERSE", type := .boolean, accessFlags := 26, slot := 1, constantValue := 0 }, { name := "archivedObjects", type := (.array (.object "java/lang/Object")), accessFlags := 10, slot := 2, constantValue := 0 }, { name := "EMPTY", type := (.object "java/lang/Object"), accessFlags := 26, slot := 3, constantValue := 0 }, { name := "EMPTY_LIST", type := (.object "java/util/ImmutableCollections$ListN"), accessFlags := 24, slot := 4, constantValue := 0 }, { name := "EMPTY_LIST_NULLS", type := (.object "java/util/ImmutableCollections$ListN"), accessFlags := 24, slot := 5, constantValue := 0 }, { name := "EMPTY_SET", type := (.object "java/util/ImmutableCollections$SetN"), accessFlags := 24, slot := 6, constantValue := 0 }, { name := "EMPTY_MAP", type := (.object "java/util/ImmutableCollections$MapN"), accessFlags := 24, slot := 7, constantValue := 0 }, { name := "EXPAND_FACTOR", type := .int, accessFlags := 24, slot := 8, constantValue := 0 }, { name := "$assertionsDisabled", type := .boolean, accessFlags := 4120, slot := 9, constantValue := 0 }]
  methods := #[k24m0, k24m1]
  instanceTypes := #[]
  staticTypes := #[.long, .boolean, (.array (.object "java/lang/Object")), (.object "java/lang/Object"), (.object "java/util/ImmutableCollections$ListN"), (.object "java/util/ImmutableCollections$ListN"), (.object "java/util/ImmutableCollections$SetN"), (.object "java/util/ImmutableCollections$MapN"), .int, .boolean]
  resolved := Array.replicate 213 none
  statics := some 2 }

def pool25 : Array CpInfo := pool [(1, .methodref 2 3), (0, .class_ 4), (0, .nameAndType 5 6), (0, u "java/util/AbstractCollection"), (0, u "<init>"), (0, u "()V"), (1, .class_ 10), (1, u "java/util/ImmutableCollections"), (2, .class_ 14), (0, u "java/util/ImmutableCollections$AbstractImmutableCollection")] 41

def k25c0 : Code := { maxStack := 1, maxLocals := 1, code := jdk_47_method_1_code, exceptionTable := #[], attributes := #[] }
def k25m0 : Method := { name := "<init>", desc := "()V", sig := { parameters := [], returnType := none }, accessFlags := 0, code := some k25c0 }
/-- java/util/ImmutableCollections$AbstractImmutableCollection -/
def k25 : Class := { plain "java/util/ImmutableCollections$AbstractImmutableCollection" (some 15) with
  accessFlags := 1056
  interfaces := #[]
  cf := some (fileOf pool25 13 #[.nestHost 8] #[{ accessFlags := 0, nameIndex := 5, descriptorIndex := 6, attributes := #[] }] 1056 2 #[] #[])
  fields := #[]
  methods := #[k25m0]
  instanceTypes := #[]
  staticTypes := #[]
  resolved := Array.replicate 56 none
  statics := none }

def pool26 : Array CpInfo := pool [(1, .methodref 2 3), (0, .class_ 4), (0, .nameAndType 5 6), (0, u "java/util/ImmutableCollections$AbstractImmutableCollection"), (0, u "<init>"), (0, u "()V"), (1, .class_ 10), (1, u "java/util/ImmutableCollections"), (3, .class_ 16), (1, u "java/util/ImmutableCollections$AbstractImmutableList"), (60, .class_ 78), (0, u "java/util/List"), (45, .class_ 125), (0, u "java/util/RandomAccess")] 70

def k26c0 : Code := { maxStack := 1, maxLocals := 1, code := jdk_46_method_1_code, exceptionTable := #[], attributes := #[] }
def k26m0 : Method := { name := "<init>", desc := "()V", sig := { parameters := [], returnType := none }, accessFlags := 0, code := some k26c0 }
/-- java/util/ImmutableCollections$AbstractImmutableList -/
def k26 : Class := { plain "java/util/ImmutableCollections$AbstractImmutableList" (some 25) with
  accessFlags := 1056
  interfaces := #[17, 19]
  cf := some (fileOf pool26 14 #[.nestHost 8] #[{ accessFlags := 0, nameIndex := 5, descriptorIndex := 6, attributes := #[] }] 1056 2 #[77, 124] #[])
  fields := #[]
  methods := #[k26m0]
  instanceTypes := #[]
  staticTypes := #[]
  resolved := Array.replicate 196 none
  statics := none }

def pool27 : Array CpInfo := pool [(1, .methodref 2 3), (0, .class_ 4), (0, .nameAndType 5 6), (0, u "java/util/ImmutableCollections$AbstractImmutableList"), (0, u "<init>"), (0, u "()V"), (0, .methodref 8 9), (0, .class_ 10), (0, .nameAndType 11 12), (0, u "java/util/Objects"), (0, u "requireNonNull"), (0, u "(Ljava/lang/Object;)Ljava/lang/Object;"), (0, .fieldref 14 15), (0, .class_ 16), (0, .nameAndType 17 18), (0, u "java/util/ImmutableCollections$List12"), (0, u "e0"), (0, u "Ljava/lang/Object;"), (0, .fieldref 20 21), (0, .class_ 22), (0, .nameAndType 23 18), (0, u "java/util/ImmutableCollections"), (0, u "EMPTY"), (0, .fieldref 14 25), (0, .nameAndType 26 18), (0, u "e1"), (24, u "size"), (0, u "()I"), (17, .class_ 71), (0, u "java/io/Serializable"), (4, u "(Ljava/lang/Object;)V")] 48

def k27c0 : Code := { maxStack := 2, maxLocals := 2, code := jdk_44_method_1_code, exceptionTable := #[], attributes := #[] }
def k27m0 : Method := { name := "<init>", desc := "(Ljava/lang/Object;)V", sig := { parameters := [(.object "java/lang/Object")], returnType := none }, accessFlags := 0, code := some k27c0 }
def k27c1 : Code := { maxStack := 2, maxLocals := 1, code := jdk_44_method_3_code, exceptionTable := #[], attributes := #[] }
def k27m1 : Method := { name := "size", desc := "()I", sig := { parameters := [], returnType := some .int }, accessFlags := 1, code := some k27c1 }
/-- java/util/ImmutableCollections$List12 -/
def k27 : Class := { plain "java/util/ImmutableCollections$List12" (some 26) with
  accessFlags := 48
  interfaces := #[6]
  cf := some (fileOf pool27 14 #[.nestHost 20] #[{ accessFlags := 0, nameIndex := 5, descriptorIndex := 76, attributes := #[] }, { accessFlags := 1, nameIndex := 51, descriptorIndex := 52, attributes := #[] }] 48 2 #[70] #[{ accessFlags := 18, nameIndex := 17, descriptorIndex := 18, attributes := #[] }, { accessFlags := 18, nameIndex := 26, descriptorIndex := 18, attributes := #[] }])
  fields := #[{ name := "e0", type := (.object "java/lang/Object"), accessFlags := 18, slot := 0, constantValue := 0 }, { name := "e1", type := (.object "java/lang/Object"), accessFlags := 18, slot := 1, constantValue := 0 }]
  methods := #[k27m0, k27m1]
  instanceTypes := #[(.object "java/lang/Object"), (.object "java/lang/Object")]
  staticTypes := #[]
  resolved := Array.replicate 125 none
  statics := none }

def pool28 : Array CpInfo := pool [(2, .class_ 4), (1, u "java/util/ImmutableCollections$AbstractImmutableList"), (2, .fieldref 8 9), (0, .class_ 10), (0, .nameAndType 11 12), (0, u "java/util/ImmutableCollections$ListN"), (0, u "elements"), (0, u "[Ljava/lang/Object;"), (2, u "allowNulls"), (0, u "Z"), (42, .class_ 60), (0, u "java/io/Serializable"), (16, u "size"), (0, u "()I"), (35, .class_ 115), (0, u "java/util/ImmutableCollections")] 3

def k28c0 : Code := { maxStack := 1, maxLocals := 1, code := jdk_45_method_3_code, exceptionTable := #[], attributes := #[] }
def k28m0 : Method := { name := "size", desc := "()I", sig := { parameters := [], returnType := some .int }, accessFlags := 1, code := some k28c0 }
/-- java/util/ImmutableCollections$ListN -/
def k28 : Class := { plain "java/util/ImmutableCollections$ListN" (some 26) with
  accessFlags := 48
  interfaces := #[6]
  cf := some (fileOf pool28 8 #[.nestHost 114] #[{ accessFlags := 1, nameIndex := 77, descriptorIndex := 78, attributes := #[] }] 48 2 #[59] #[{ accessFlags := 18, nameIndex := 11, descriptorIndex := 12, attributes := #[] }, { accessFlags := 18, nameIndex := 15, descriptorIndex := 16, attributes := #[] }])
  fields := #[{ name := "elements", type := (.array (.object "java/lang/Object")), accessFlags := 18, slot := 0, constantValue := 0 }, { name := "allowNulls", type := .boolean, accessFlags := 18, slot := 1, constantValue := 0 }]
  methods := #[k28m0]
  instanceTypes := #[(.array (.object "java/lang/Object")), .boolean]
  staticTypes := #[]
  resolved := Array.replicate 119 none
  statics := none }

def pool29 : Array CpInfo := pool [(2, .class_ 4), (1, u "java/lang/Object"), (0, u "<init>"), (0, u "()V"), (1, .class_ 10), (1, u "java/lang/System"), (0, u "allowSecurityManager"), (0, u "I"), (16, u "cons"), (0, u "Ljava/io/Console;"), (77, .class_ 110), (1, u "java/lang/System$CallersHolder"), (43, u "initialErrStream"), (0, u "Ljava/io/PrintStream;"), (19, u "security"), (0, u "Ljava/lang/SecurityManager;"), (31, .class_ 209), (0, u "java/lang/System$1"), (7, u "props"), (0, u "Ljava/util/Properties;"), (2, u "lineSeparator"), (0, u "Ljava/lang/String;"), (96, .class_ 321), (1, u "java/lang/System$LoggerFinder"), (5, .class_ 328), (0, u "java/lang/System$Logger"), (67, u "err"), (2, u "out"), (91, u "notSupportedJnuEncoding"), (15, u "in"), (17, u "initialIn"), (0, u "Ljava/io/InputStream;"), (35, u "bootLayer"), (0, u "Ljava/lang/ModuleLayer;"), (99, .class_ 664), (0, u "java/lang/System$2"), (9, u "NEVER"), (2, u "MAYBE"), (49, u "arraycopy"), (0, u "(Ljava/lang/Object;ILjava/lang/Object;II)V"), (72, .class_ 802), (0, u "java/lang/System$Logger$Level")] 31

def k29m0 : Method := { name := "<init>", desc := "()V", sig := { parameters := [], returnType := none }, accessFlags := 2, code := none }
def k29m1 : Method := { name := "arraycopy", desc := "(Ljava/lang/Object;ILjava/lang/Object;II)V", sig := { parameters := [(.object "java/lang/Object"), .int, (.object "java/lang/Object"), .int, .int], returnType := none }, accessFlags := 265, code := none }
/-- java/lang/System -/
def k29 : Class := { plain "java/lang/System" (some 0) with
  accessFlags := 49
  interfaces := #[]
  cf := some (fileOf pool29 8 #[.nestMembers #[319, 327, 801, 108, 663, 208]] #[{ accessFlags := 2, nameIndex := 5, descriptorIndex := 6, attributes := #[] }, { accessFlags := 265, nameIndex := 727, descriptorIndex := 728, attributes := #[] }] 49 2 #[] #[{ accessFlags := 25, nameIndex := 507, descriptorIndex := 526, attributes := #[] }, { accessFlags := 25, nameIndex := 399, descriptorIndex := 155, attributes := #[] }, { accessFlags := 25, nameIndex := 396, descriptorIndex := 155, attributes := #[] }, { accessFlags := 10, nameIndex := 525, descriptorIndex := 526, attributes := #[] }, { accessFlags := 26, nameIndex := 674, descriptorIndex := 12, attributes := #[] }, { accessFlags := 26, nameIndex := 677, descriptorIndex := 12, attributes := #[] }, { accessFlags := 10, nameIndex := 11, descriptorIndex := 12, attributes := #[] }, { accessFlags := 74, nameIndex := 175, descriptorIndex := 176, attributes := #[] }, { accessFlags := 10, nameIndex := 491, descriptorIndex := 222, attributes := #[] }, { accessFlags := 74, nameIndex := 29, descriptorIndex := 30, attributes := #[] }, { accessFlags := 74, nameIndex := 154, descriptorIndex := 155, attributes := #[] }, { accessFlags := 10, nameIndex := 217, descriptorIndex := 218, attributes := #[] }, { accessFlags := 10, nameIndex := 221, descriptorIndex := 222, attributes := #[] }, { accessFlags := 8, nameIndex := 562, descriptorIndex := 563, attributes := #[] }])
  fields := #[{ name := "in", type := (.object "java/io/InputStream"), accessFlags := 25, slot := 0, constantValue := 0 }, { name := "out", type := (.object "java/io/PrintStream"), accessFlags := 25, slot := 1, constantValue := 0 }, { name := "err", type := (.object "java/io/PrintStream"), accessFlags := 25, slot := 2, constantValue := 0 }, { name := "initialIn", type := (.object "java/io/InputStream"), accessFlags := 10, slot := 3, constantValue := 0 }, { name := "NEVER", type := .int, accessFlags := 26, slot := 4, constantValue := 0 }, { name := "MAYBE", type := .int, accessFlags := 26, slot := 5, constantValue := 0 }, { name := "allowSecurityManager", type := .int, accessFlags := 10, slot := 6, constantValue := 0 }, { name := "security", type := (.object "java/lang/SecurityManager"), accessFlags := 74, slot := 7, constantValue := 0 }, { name := "notSupportedJnuEncoding", type := (.object "java/lang/String"), accessFlags := 10, slot := 8, constantValue := 0 }, { name := "cons", type := (.object "java/io/Console"), accessFlags := 74, slot := 9, constantValue := 0 }, { name := "initialErrStream", type := (.object "java/io/PrintStream"), accessFlags := 74, slot := 10, constantValue := 0 }, { name := "props", type := (.object "java/util/Properties"), accessFlags := 10, slot := 11, constantValue := 0 }, { name := "lineSeparator", type := (.object "java/lang/String"), accessFlags := 10, slot := 12, constantValue := 0 }, { name := "bootLayer", type := (.object "java/lang/ModuleLayer"), accessFlags := 8, slot := 13, constantValue := 0 }]
  methods := #[k29m0, k29m1]
  instanceTypes := #[]
  staticTypes := #[(.object "java/io/InputStream"), (.object "java/io/PrintStream"), (.object "java/io/PrintStream"), (.object "java/io/InputStream"), .int, .int, .int, (.object "java/lang/SecurityManager"), (.object "java/lang/String"), (.object "java/io/Console"), (.object "java/io/PrintStream"), (.object "java/util/Properties"), (.object "java/lang/String"), (.object "java/lang/ModuleLayer")]
  resolved := Array.replicate 834 none
  statics := none }

def pool30 : Array CpInfo := pool [(1, u "java/lang/Class"), (0, .class_ 1), (0, u "java/lang/Object"), (0, .class_ 3)] 3

/-- java/lang/Class -/
def k30 : Class := { plain "java/lang/Class" (some 0) with
  accessFlags := 49
  interfaces := #[]
  cf := some (fileOf pool30 2 #[] #[] 49 4 #[] #[])
  fields := #[]
  methods := #[]
  instanceTypes := #[]
  staticTypes := #[]
  resolved := Array.replicate 8 none
  statics := none }

/-- the primitive byte -/
def k31 : Class := { plain "byte" none with kind := .primitive 'B', accessFlags := 0x411 }
/-- [B -/
def k32 : Class := { plain "[B" (some 0) with kind := .array 31 .byte, interfaces := #[20, 6], accessFlags := 1041 }

/-- the primitive int -/
def k33 : Class := { plain "int" none with kind := .primitive 'I', accessFlags := 0x411 }
/-- [I -/
def k34 : Class := { plain "[I" (some 0) with kind := .array 33 .int, interfaces := #[20, 6], accessFlags := 1041 }

/-- [Lcom/example/invariant/invariant/Value; -/
def k35 : Class := { plain "[Lcom/example/invariant/invariant/Value;" (some 0) with kind := .array 5 (.object "com/example/invariant/invariant/Value"), interfaces := #[20, 6], accessFlags := 1041 }

/-- [Ljava/lang/Object; -/
def k36 : Class := { plain "[Ljava/lang/Object;" (some 0) with kind := .array 0 (.object "java/lang/Object"), interfaces := #[20, 6], accessFlags := 1041, mirror := some 3 }

def heap : Heap := #[{ cls := 2, slots := #[.ref 4], vm := .statics 2 },
  { cls := 21, slots := #[.long 0, .int 0, .ref 7, .ref 8], vm := .statics 21 },
  { cls := 24, slots := #[.long 0, .int 0, .null, .ref 9, .ref 5, .null, .null, .null, .int 0, .int 1], vm := .statics 24 },
  { cls := 30, slots := #[], vm := .mirror 36 },
  { cls := 2, slots := #[.null, .null, .int 1], vm := .none },
  { cls := 28, slots := #[.ref 6, .int 0], vm := .none },
  { cls := 36, slots := #[], vm := .none },
  { cls := 36, slots := #[], vm := .none },
  { cls := 36, slots := #[], vm := .none },
  { cls := 0, slots := #[], vm := .none }]
def classes : Array Class := #[k0, k1, k2, k3, k4, k5, k6, k7, k8, k9, k10, k11, k12, k13, k14, k15, k16, k17, k18, k19, k20, k21, k22, k23, k24, k25, k26, k27, k28, k29, k30, k31, k32, k33, k34, k35, k36]
def interned : List (Array UInt16 × Addr) := []
def slotsUsed : Nat := 20
def theMethod : MethodId := ⟨1, 1⟩
def args0 : Array Value := #[.int 5, .int 6]
def aboutOver (below : List Frame) : State where
  vm := { classes := classes, interned := interned.toArray }
  heap := heap
  slotsUsed := slotsUsed
  threads := #[{ frames := .invoking theMethod args0 :: below }]
def below0 : List Frame := [.native { method := ⟨0, 0⟩, args := #[] }]
def about1 : State := aboutOver below0
def p0 : Program := .bare "" "" ""
def e0 : Env := launch0.env 0 0 0
theorem w_frames : about1.frames = Frame.invoking theMethod args0 :: below0 := rfl
set_option maxRecDepth 65536 in
theorem w_args : argsFit about1.vm theMethod args0 = true := by decide +kernel
set_option maxRecDepth 65536 in
theorem w_heap : heapFits about1 = true := by decide +kernel
set_option maxRecDepth 65536 in
theorem w_runnable : about1.curStatus? = some .runnable := by decide +kernel
set_option maxRecDepth 65536 in
theorem w_alone : about1.alone = true := by decide +kernel
set_option maxRecDepth 65536 in
theorem w_named : about1.methodNamed? x = some theMethod := by decide +kernel
set_option maxRecDepth 65536 in
theorem w_hears : about1.hears theMethod below0 = true := by decide +kernel
set_option maxRecDepth 65536 in
theorem w_ripe : about1.ripe theMethod args0 below0 = true := by decide +kernel
theorem w_running : about1.status = .running := rfl
set_option maxRecDepth 65536 in
theorem w_room : about1.hasRoom e0.platform room_1 = true :=
  launch0.hasRoom_least _ room_1 (by decide +kernel) (by decide +kernel) (by decide +kernel) (by decide +kernel) (by decide +kernel) (by decide +kernel)
theorem allAtoms_all (ts : List Jvm.Cond) (a : Array Jvm.Value) (st : Jvm.State) : (allAtoms ts).before a st = ts.all (fun c => c.before a st) := by
  induction ts with
  | nil => rfl
  | cons c t ih =>
    show (Jvm.Cond.and c (allAtoms t)).before a st = _
    rw [Jvm.Cond.before_and, ih, List.all_cons]
def words1 : List Jvm.Cond := Jvm.Cond.code x code maxLocals ret :: tables_1
/-- a 'code' word, met by the world's own term for the bytes: nothing is compared byte by byte -/
theorem code_word {y : MethodName} {bytes : ByteArray} {mx : Nat} {rt : Option FieldType} {a : Array Value} {s : State} {m : MethodId} {meth : Method} {c : Code} (h1 : s.methodNamed? y = some m) (h2 : s.vm.method? m = some meth) (h3 : meth.code = some c) (h4 : c.code = bytes)
    (h5 : (c.maxLocals == mx && c.exceptionTable.isEmpty && decide (c.maxStack ≤ mostOperands) && decide (meth.sig.returnType = rt) && !meth.locks && decide (parseMethodDescriptor y.desc = some meth.sig)) = true) : (Jvm.Cond.code y bytes mx rt).before a s = true := by
  simp only [Bool.and_eq_true, beq_iff_eq, Bool.not_eq_true', decide_eq_true_eq] at h5
  obtain ⟨⟨⟨⟨⟨g1, g2⟩, g3⟩, g4⟩, g5⟩, g6⟩ := h5
  simp [Cond.before, Cond.holds, Cond.value, h1, h2, h3, h4, g1, g2, g3, g4, g5, g6]
def isCode : Jvm.Cond → Bool
  | .code _ _ _ _ => true
  | _ => false
theorem all_split {L : List Jvm.Cond} {P : Jvm.Cond → Bool} (h1 : L.all (fun c => isCode c || P c) = true) (h2 : ∀ c ∈ L.filter isCode, P c = true) : L.all P = true := by
  refine List.all_eq_true.mpr fun c hc => ?_
  have h := List.all_eq_true.mp h1 c hc
  rcases Bool.eq_false_or_eq_true (isCode c) with hi | hi
  · exact h2 c (List.mem_filter.mpr ⟨hc, hi⟩)
  · simpa [hi] using h
set_option maxRecDepth 65536 in
theorem w_c0 : (Jvm.Cond.code x code maxLocals ret).before args0 about1 = true := code_word (m := ⟨1, 1⟩) (meth := k1m1) (c := k1c1) (by decide +kernel) rfl rfl rfl (by decide +kernel)
set_option maxRecDepth 65536 in
theorem w_c1 : (Jvm.Cond.code ({ cls := "com/example/invariant/invariant/State", name := "blank", desc := "(ILcom/example/invariant/invariant/Configuration;)Lcom/example/invariant/invariant/State;" } : Jvm.MethodName) prog_96_method_2_code (2 : Nat) (Option.some (Jvm.ClassFile.FieldType.object "com/example/invariant/invariant/State"))).before args0 about1 = true := code_word (m := ⟨3, 1⟩) (meth := k3m1) (c := k3c1) (by decide +kernel) rfl rfl rfl (by decide +kernel)
set_option maxRecDepth 65536 in
theorem w_c2 : (Jvm.Cond.code ({ cls := "com/example/invariant/invariant/State", name := "of", desc := "(Lcom/example/invariant/invariant/Configuration;[Lcom/example/invariant/invariant/Value;)Lcom/example/invariant/invariant/State;" } : Jvm.MethodName) prog_96_method_3_code (2 : Nat) (Option.some (Jvm.ClassFile.FieldType.object "com/example/invariant/invariant/State"))).before args0 about1 = true := code_word (m := ⟨3, 2⟩) (meth := k3m2) (c := k3c2) (by decide +kernel) rfl rfl rfl (by decide +kernel)
set_option maxRecDepth 65536 in
theorem w_c3 : (Jvm.Cond.code ({ cls := "java/util/Objects", name := "requireNonNull", desc := "(Ljava/lang/Object;Ljava/lang/String;)Ljava/lang/Object;" } : Jvm.MethodName) jdk_31_method_11_code (2 : Nat) (Option.some (Jvm.ClassFile.FieldType.object "java/lang/Object"))).before args0 about1 = true := code_word (m := ⟨11, 2⟩) (meth := k11m2) (c := k11c2) (by decide +kernel) rfl rfl rfl (by decide +kernel)
set_option maxRecDepth 65536 in
theorem w_c4 : (Jvm.Cond.code ({ cls := "com/example/invariant/invariant/State", name := "<init>", desc := "(Lcom/example/invariant/invariant/Configuration;[Lcom/example/invariant/invariant/Value;)V" } : Jvm.MethodName) prog_96_method_1_code (3 : Nat) (Option.none : Option Jvm.ClassFile.FieldType)).before args0 about1 = true := code_word (m := ⟨3, 0⟩) (meth := k3m0) (c := k3c0) (by decide +kernel) rfl rfl rfl (by decide +kernel)
set_option maxRecDepth 65536 in
theorem w_c5 : (Jvm.Cond.code ({ cls := "java/lang/Object", name := "<init>", desc := "()V" } : Jvm.MethodName) object_method_1_code (1 : Nat) (Option.none : Option Jvm.ClassFile.FieldType)).before args0 about1 = true := code_word (m := ⟨0, 0⟩) (meth := k0m0) (c := k0c0) (by decide +kernel) rfl rfl rfl (by decide +kernel)
set_option maxRecDepth 65536 in
theorem w_c6 : (Jvm.Cond.code ({ cls := "com/example/invariant/invariant/Configuration", name := "hashCode", desc := "()I" } : Jvm.MethodName) prog_15_method_7_code (1 : Nat) (Option.some Jvm.ClassFile.FieldType.int)).before args0 about1 = true := code_word (m := ⟨2, 0⟩) (meth := k2m0) (c := k2c0) (by decide +kernel) rfl rfl rfl (by decide +kernel)
set_option maxRecDepth 65536 in
theorem w_c7 : (Jvm.Cond.code ({ cls := "java/util/Arrays", name := "hashCode", desc := "([Ljava/lang/Object;)I" } : Jvm.MethodName) jdk_65_method_157_code (6 : Nat) (Option.some Jvm.ClassFile.FieldType.int)).before args0 about1 = true := code_word (m := ⟨12, 3⟩) (meth := k12m3) (c := k12c3) (by decide +kernel) rfl rfl rfl (by decide +kernel)
set_option maxRecDepth 65536 in
theorem w_c8 : (Jvm.Cond.code ({ cls := "java/util/ArrayList", name := "<init>", desc := "()V" } : Jvm.MethodName) jdk_38_method_2_code (1 : Nat) (Option.none : Option Jvm.ClassFile.FieldType)).before args0 about1 = true := code_word (m := ⟨21, 0⟩) (meth := k21m0) (c := k21c0) (by decide +kernel) rfl rfl rfl (by decide +kernel)
set_option maxRecDepth 65536 in
theorem w_c9 : (Jvm.Cond.code ({ cls := "java/util/AbstractList", name := "<init>", desc := "()V" } : Jvm.MethodName) jdk_39_method_1_code (1 : Nat) (Option.none : Option Jvm.ClassFile.FieldType)).before args0 about1 = true := code_word (m := ⟨18, 0⟩) (meth := k18m0) (c := k18c0) (by decide +kernel) rfl rfl rfl (by decide +kernel)
set_option maxRecDepth 65536 in
theorem w_c10 : (Jvm.Cond.code ({ cls := "java/util/AbstractCollection", name := "<init>", desc := "()V" } : Jvm.MethodName) jdk_22_method_1_code (1 : Nat) (Option.none : Option Jvm.ClassFile.FieldType)).before args0 about1 = true := code_word (m := ⟨15, 0⟩) (meth := k15m0) (c := k15c0) (by decide +kernel) rfl rfl rfl (by decide +kernel)
set_option maxRecDepth 65536 in
theorem w_c11 : (Jvm.Cond.code ({ cls := "java/util/ArrayList", name := "add", desc := "(Ljava/lang/Object;)Z" } : Jvm.MethodName) jdk_38_method_25_code (2 : Nat) (Option.some Jvm.ClassFile.FieldType.boolean)).before args0 about1 = true := code_word (m := ⟨21, 7⟩) (meth := k21m7) (c := k21c7) (by decide +kernel) rfl rfl rfl (by decide +kernel)
set_option maxRecDepth 65536 in
theorem w_c12 : (Jvm.Cond.code ({ cls := "java/util/ArrayList", name := "add", desc := "(Ljava/lang/Object;[Ljava/lang/Object;I)V" } : Jvm.MethodName) jdk_38_method_24_code (4 : Nat) (Option.none : Option Jvm.ClassFile.FieldType)).before args0 about1 = true := code_word (m := ⟨21, 6⟩) (meth := k21m6) (c := k21c6) (by decide +kernel) rfl rfl rfl (by decide +kernel)
set_option maxRecDepth 65536 in
theorem w_c13 : (Jvm.Cond.code ({ cls := "java/util/ArrayList", name := "grow", desc := "()[Ljava/lang/Object;" } : Jvm.MethodName) jdk_38_method_7_code (1 : Nat) (Option.some (Jvm.ClassFile.FieldType.array (Jvm.ClassFile.FieldType.object "java/lang/Object")))).before args0 about1 = true := code_word (m := ⟨21, 2⟩) (meth := k21m2) (c := k21c2) (by decide +kernel) rfl rfl rfl (by decide +kernel)
set_option maxRecDepth 65536 in
theorem w_c14 : (Jvm.Cond.code ({ cls := "java/util/ArrayList", name := "grow", desc := "(I)[Ljava/lang/Object;" } : Jvm.MethodName) jdk_38_method_6_code (4 : Nat) (Option.some (Jvm.ClassFile.FieldType.array (Jvm.ClassFile.FieldType.object "java/lang/Object")))).before args0 about1 = true := code_word (m := ⟨21, 1⟩) (meth := k21m1) (c := k21c1) (by decide +kernel) rfl rfl rfl (by decide +kernel)
set_option maxRecDepth 65536 in
theorem w_c15 : (Jvm.Cond.code ({ cls := "java/lang/Math", name := "max", desc := "(II)I" } : Jvm.MethodName) jdk_29_method_65_code (2 : Nat) (Option.some Jvm.ClassFile.FieldType.int)).before args0 about1 = true := code_word (m := ⟨22, 1⟩) (meth := k22m1) (c := k22c1) (by decide +kernel) rfl rfl rfl (by decide +kernel)
set_option maxRecDepth 65536 in
theorem w_c16 : (Jvm.Cond.code ({ cls := "com/example/invariant/invariant/Trace", name := "<init>", desc := "(Ljava/util/List;Ljava/util/List;)V" } : Jvm.MethodName) prog_114_method_1_code (3 : Nat) (Option.none : Option Jvm.ClassFile.FieldType)).before args0 about1 = true := code_word (m := ⟨23, 0⟩) (meth := k23m0) (c := k23c0) (by decide +kernel) rfl rfl rfl (by decide +kernel)
set_option maxRecDepth 65536 in
theorem w_c17 : (Jvm.Cond.code ({ cls := "com/example/invariant/invariant/Trace", name := "<init>", desc := "(Ljava/util/List;Ljava/util/List;Lcom/example/invariant/invariant/Model$Occurrence;I)V" } : Jvm.MethodName) prog_114_method_2_code (5 : Nat) (Option.none : Option Jvm.ClassFile.FieldType)).before args0 about1 = true := code_word (m := ⟨23, 1⟩) (meth := k23m1) (c := k23c1) (by decide +kernel) rfl rfl rfl (by decide +kernel)
set_option maxRecDepth 65536 in
theorem w_c18 : (Jvm.Cond.code ({ cls := "java/util/ArrayList", name := "size", desc := "()I" } : Jvm.MethodName) jdk_38_method_8_code (1 : Nat) (Option.some Jvm.ClassFile.FieldType.int)).before args0 about1 = true := code_word (m := ⟨21, 3⟩) (meth := k21m3) (c := k21c3) (by decide +kernel) rfl rfl rfl (by decide +kernel)
set_option maxRecDepth 65536 in
theorem w_c19 : (Jvm.Cond.code ({ cls := "java/util/List", name := "copyOf", desc := "(Ljava/util/Collection;)Ljava/util/List;" } : Jvm.MethodName) jdk_40_method_48_code (1 : Nat) (Option.some (Jvm.ClassFile.FieldType.object "java/util/List"))).before args0 about1 = true := code_word (m := ⟨17, 3⟩) (meth := k17m3) (c := k17c3) (by decide +kernel) rfl rfl rfl (by decide +kernel)
set_option maxRecDepth 65536 in
theorem w_c20 : (Jvm.Cond.code ({ cls := "java/util/ImmutableCollections", name := "listCopy", desc := "(Ljava/util/Collection;)Ljava/util/List;" } : Jvm.MethodName) jdk_56_method_3_code (2 : Nat) (Option.some (Jvm.ClassFile.FieldType.object "java/util/List"))).before args0 about1 = true := code_word (m := ⟨24, 1⟩) (meth := k24m1) (c := k24c1) (by decide +kernel) rfl rfl rfl (by decide +kernel)
set_option maxRecDepth 65536 in
theorem w_c21 : (Jvm.Cond.code ({ cls := "java/util/ArrayList", name := "isEmpty", desc := "()Z" } : Jvm.MethodName) jdk_38_method_9_code (1 : Nat) (Option.some Jvm.ClassFile.FieldType.boolean)).before args0 about1 = true := code_word (m := ⟨21, 4⟩) (meth := k21m4) (c := k21c4) (by decide +kernel) rfl rfl rfl (by decide +kernel)
set_option maxRecDepth 65536 in
theorem w_c22 : (Jvm.Cond.code ({ cls := "java/util/ArrayList", name := "toArray", desc := "()[Ljava/lang/Object;" } : Jvm.MethodName) jdk_38_method_16_code (1 : Nat) (Option.some (Jvm.ClassFile.FieldType.array (Jvm.ClassFile.FieldType.object "java/lang/Object")))).before args0 about1 = true := code_word (m := ⟨21, 5⟩) (meth := k21m5) (c := k21c5) (by decide +kernel) rfl rfl rfl (by decide +kernel)
set_option maxRecDepth 65536 in
theorem w_c23 : (Jvm.Cond.code ({ cls := "java/util/Arrays", name := "copyOf", desc := "([Ljava/lang/Object;I)[Ljava/lang/Object;" } : Jvm.MethodName) jdk_65_method_119_code (2 : Nat) (Option.some (Jvm.ClassFile.FieldType.array (Jvm.ClassFile.FieldType.object "java/lang/Object")))).before args0 about1 = true := code_word (m := ⟨12, 1⟩) (meth := k12m1) (c := k12c1) (by decide +kernel) rfl rfl rfl (by decide +kernel)
set_option maxRecDepth 65536 in
theorem w_c24 : (Jvm.Cond.code ({ cls := "java/util/Arrays", name := "copyOf", desc := "([Ljava/lang/Object;ILjava/lang/Class;)[Ljava/lang/Object;" } : Jvm.MethodName) jdk_65_method_120_code (4 : Nat) (Option.some (Jvm.ClassFile.FieldType.array (Jvm.ClassFile.FieldType.object "java/lang/Object")))).before args0 about1 = true := code_word (m := ⟨12, 2⟩) (meth := k12m2) (c := k12c2) (by decide +kernel) rfl rfl rfl (by decide +kernel)
set_option maxRecDepth 65536 in
theorem w_c25 : (Jvm.Cond.code ({ cls := "java/lang/Math", name := "min", desc := "(II)I" } : Jvm.MethodName) jdk_29_method_69_code (2 : Nat) (Option.some Jvm.ClassFile.FieldType.int)).before args0 about1 = true := code_word (m := ⟨22, 2⟩) (meth := k22m2) (c := k22c2) (by decide +kernel) rfl rfl rfl (by decide +kernel)
set_option maxRecDepth 65536 in
theorem w_c26 : (Jvm.Cond.code ({ cls := "java/util/List", name := "of", desc := "([Ljava/lang/Object;)Ljava/util/List;" } : Jvm.MethodName) jdk_40_method_47_code (2 : Nat) (Option.some (Jvm.ClassFile.FieldType.object "java/util/List"))).before args0 about1 = true := code_word (m := ⟨17, 2⟩) (meth := k17m2) (c := k17c2) (by decide +kernel) rfl rfl rfl (by decide +kernel)
set_option maxRecDepth 65536 in
theorem w_c27 : (Jvm.Cond.code ({ cls := "java/util/ImmutableCollections$List12", name := "<init>", desc := "(Ljava/lang/Object;)V" } : Jvm.MethodName) jdk_44_method_1_code (2 : Nat) (Option.none : Option Jvm.ClassFile.FieldType)).before args0 about1 = true := code_word (m := ⟨27, 0⟩) (meth := k27m0) (c := k27c0) (by decide +kernel) rfl rfl rfl (by decide +kernel)
set_option maxRecDepth 65536 in
theorem w_c28 : (Jvm.Cond.code ({ cls := "java/util/ImmutableCollections$AbstractImmutableList", name := "<init>", desc := "()V" } : Jvm.MethodName) jdk_46_method_1_code (1 : Nat) (Option.none : Option Jvm.ClassFile.FieldType)).before args0 about1 = true := code_word (m := ⟨26, 0⟩) (meth := k26m0) (c := k26c0) (by decide +kernel) rfl rfl rfl (by decide +kernel)
set_option maxRecDepth 65536 in
theorem w_c29 : (Jvm.Cond.code ({ cls := "java/util/ImmutableCollections$AbstractImmutableCollection", name := "<init>", desc := "()V" } : Jvm.MethodName) jdk_47_method_1_code (1 : Nat) (Option.none : Option Jvm.ClassFile.FieldType)).before args0 about1 = true := code_word (m := ⟨25, 0⟩) (meth := k25m0) (c := k25c0) (by decide +kernel) rfl rfl rfl (by decide +kernel)
set_option maxRecDepth 65536 in
theorem w_c30 : (Jvm.Cond.code ({ cls := "java/util/Objects", name := "requireNonNull", desc := "(Ljava/lang/Object;)Ljava/lang/Object;" } : Jvm.MethodName) jdk_31_method_10_code (1 : Nat) (Option.some (Jvm.ClassFile.FieldType.object "java/lang/Object"))).before args0 about1 = true := code_word (m := ⟨11, 1⟩) (meth := k11m1) (c := k11c1) (by decide +kernel) rfl rfl rfl (by decide +kernel)
set_option maxRecDepth 65536 in
theorem w_c31 : (Jvm.Cond.code ({ cls := "java/util/List", name := "of", desc := "()Ljava/util/List;" } : Jvm.MethodName) jdk_40_method_36_code (0 : Nat) (Option.some (Jvm.ClassFile.FieldType.object "java/util/List"))).before args0 about1 = true := code_word (m := ⟨17, 1⟩) (meth := k17m1) (c := k17c1) (by decide +kernel) rfl rfl rfl (by decide +kernel)
set_option maxRecDepth 65536 in
theorem w_c32 : (Jvm.Cond.code ({ cls := "com/example/invariant/invariant/Trace", name := "loops", desc := "()Z" } : Jvm.MethodName) prog_114_method_8_code (1 : Nat) (Option.some Jvm.ClassFile.FieldType.boolean)).before args0 about1 = true := code_word (m := ⟨23, 4⟩) (meth := k23m4) (c := k23c4) (by decide +kernel) rfl rfl rfl (by decide +kernel)
set_option maxRecDepth 65536 in
theorem w_c33 : (Jvm.Cond.code ({ cls := "com/example/invariant/invariant/Trace", name := "stuttering", desc := "()Lcom/example/invariant/invariant/Trace;" } : Jvm.MethodName) prog_114_method_4_code (1 : Nat) (Option.some (Jvm.ClassFile.FieldType.object "com/example/invariant/invariant/Trace"))).before args0 about1 = true := code_word (m := ⟨23, 2⟩) (meth := k23m2) (c := k23c2) (by decide +kernel) rfl rfl rfl (by decide +kernel)
set_option maxRecDepth 65536 in
theorem w_c34 : (Jvm.Cond.code ({ cls := "java/util/ImmutableCollections$List12", name := "size", desc := "()I" } : Jvm.MethodName) jdk_44_method_3_code (1 : Nat) (Option.some Jvm.ClassFile.FieldType.int)).before args0 about1 = true := code_word (m := ⟨27, 1⟩) (meth := k27m1) (c := k27c1) (by decide +kernel) rfl rfl rfl (by decide +kernel)
set_option maxRecDepth 65536 in
theorem w_c35 : (Jvm.Cond.code ({ cls := "com/example/invariant/invariant/Trace", name := "loopingBack", desc := "(Lcom/example/invariant/invariant/Model$Occurrence;I)Lcom/example/invariant/invariant/Trace;" } : Jvm.MethodName) prog_114_method_5_code (3 : Nat) (Option.some (Jvm.ClassFile.FieldType.object "com/example/invariant/invariant/Trace"))).before args0 about1 = true := code_word (m := ⟨23, 3⟩) (meth := k23m3) (c := k23c3) (by decide +kernel) rfl rfl rfl (by decide +kernel)
set_option maxRecDepth 65536 in
theorem w_c36 : (Jvm.Cond.code ({ cls := "java/util/ImmutableCollections$ListN", name := "size", desc := "()I" } : Jvm.MethodName) jdk_45_method_3_code (1 : Nat) (Option.some Jvm.ClassFile.FieldType.int)).before args0 about1 = true := code_word (m := ⟨28, 0⟩) (meth := k28m0) (c := k28c0) (by decide +kernel) rfl rfl rfl (by decide +kernel)
set_option maxRecDepth 65536 in
theorem w_c37 : (Jvm.Cond.code ({ cls := "com/example/invariant/invariant/Trace", name := "loop", desc := "()I" } : Jvm.MethodName) prog_114_method_10_code (1 : Nat) (Option.some Jvm.ClassFile.FieldType.int)).before args0 about1 = true := code_word (m := ⟨23, 5⟩) (meth := k23m5) (c := k23c5) (by decide +kernel) rfl rfl rfl (by decide +kernel)
def codes1 : List Jvm.Cond := [Jvm.Cond.code x code maxLocals ret, Jvm.Cond.code ({ cls := "com/example/invariant/invariant/State", name := "blank", desc := "(ILcom/example/invariant/invariant/Configuration;)Lcom/example/invariant/invariant/State;" } : Jvm.MethodName) prog_96_method_2_code (2 : Nat) (Option.some (Jvm.ClassFile.FieldType.object "com/example/invariant/invariant/State")), Jvm.Cond.code ({ cls := "com/example/invariant/invariant/State", name := "of", desc := "(Lcom/example/invariant/invariant/Configuration;[Lcom/example/invariant/invariant/Value;)Lcom/example/invariant/invariant/State;" } : Jvm.MethodName) prog_96_method_3_code (2 : Nat) (Option.some (Jvm.ClassFile.FieldType.object "com/example/invariant/invariant/State")), Jvm.Cond.code ({ cls := "java/util/Objects", name := "requireNonNull", desc := "(Ljava/lang/Object;Ljava/lang/String;)Ljava/lang/Object;" } : Jvm.MethodName) jdk_31_method_11_code (2 : Nat) (Option.some (Jvm.ClassFile.FieldType.object "java/lang/Object")), Jvm.Cond.code ({ cls := "com/example/invariant/invariant/State", name := "<init>", desc := "(Lcom/example/invariant/invariant/Configuration;[Lcom/example/invariant/invariant/Value;)V" } : Jvm.MethodName) prog_96_method_1_code (3 : Nat) (Option.none : Option Jvm.ClassFile.FieldType), Jvm.Cond.code ({ cls := "java/lang/Object", name := "<init>", desc := "()V" } : Jvm.MethodName) object_method_1_code (1 : Nat) (Option.none : Option Jvm.ClassFile.FieldType), Jvm.Cond.code ({ cls := "com/example/invariant/invariant/Configuration", name := "hashCode", desc := "()I" } : Jvm.MethodName) prog_15_method_7_code (1 : Nat) (Option.some Jvm.ClassFile.FieldType.int), Jvm.Cond.code ({ cls := "java/util/Arrays", name := "hashCode", desc := "([Ljava/lang/Object;)I" } : Jvm.MethodName) jdk_65_method_157_code (6 : Nat) (Option.some Jvm.ClassFile.FieldType.int), Jvm.Cond.code ({ cls := "java/util/ArrayList", name := "<init>", desc := "()V" } : Jvm.MethodName) jdk_38_method_2_code (1 : Nat) (Option.none : Option Jvm.ClassFile.FieldType), Jvm.Cond.code ({ cls := "java/util/AbstractList", name := "<init>", desc := "()V" } : Jvm.MethodName) jdk_39_method_1_code (1 : Nat) (Option.none : Option Jvm.ClassFile.FieldType), Jvm.Cond.code ({ cls := "java/util/AbstractCollection", name := "<init>", desc := "()V" } : Jvm.MethodName) jdk_22_method_1_code (1 : Nat) (Option.none : Option Jvm.ClassFile.FieldType), Jvm.Cond.code ({ cls := "java/util/ArrayList", name := "add", desc := "(Ljava/lang/Object;)Z" } : Jvm.MethodName) jdk_38_method_25_code (2 : Nat) (Option.some Jvm.ClassFile.FieldType.boolean), Jvm.Cond.code ({ cls := "java/util/ArrayList", name := "add", desc := "(Ljava/lang/Object;[Ljava/lang/Object;I)V" } : Jvm.MethodName) jdk_38_method_24_code (4 : Nat) (Option.none : Option Jvm.ClassFile.FieldType), Jvm.Cond.code ({ cls := "java/util/ArrayList", name := "grow", desc := "()[Ljava/lang/Object;" } : Jvm.MethodName) jdk_38_method_7_code (1 : Nat) (Option.some (Jvm.ClassFile.FieldType.array (Jvm.ClassFile.FieldType.object "java/lang/Object"))), Jvm.Cond.code ({ cls := "java/util/ArrayList", name := "grow", desc := "(I)[Ljava/lang/Object;" } : Jvm.MethodName) jdk_38_method_6_code (4 : Nat) (Option.some (Jvm.ClassFile.FieldType.array (Jvm.ClassFile.FieldType.object "java/lang/Object"))), Jvm.Cond.code ({ cls := "java/lang/Math", name := "max", desc := "(II)I" } : Jvm.MethodName) jdk_29_method_65_code (2 : Nat) (Option.some Jvm.ClassFile.FieldType.int), Jvm.Cond.code ({ cls := "com/example/invariant/invariant/Trace", name := "<init>", desc := "(Ljava/util/List;Ljava/util/List;)V" } : Jvm.MethodName) prog_114_method_1_code (3 : Nat) (Option.none : Option Jvm.ClassFile.FieldType), Jvm.Cond.code ({ cls := "com/example/invariant/invariant/Trace", name := "<init>", desc := "(Ljava/util/List;Ljava/util/List;Lcom/example/invariant/invariant/Model$Occurrence;I)V" } : Jvm.MethodName) prog_114_method_2_code (5 : Nat) (Option.none : Option Jvm.ClassFile.FieldType), Jvm.Cond.code ({ cls := "java/util/ArrayList", name := "size", desc := "()I" } : Jvm.MethodName) jdk_38_method_8_code (1 : Nat) (Option.some Jvm.ClassFile.FieldType.int), Jvm.Cond.code ({ cls := "java/util/List", name := "copyOf", desc := "(Ljava/util/Collection;)Ljava/util/List;" } : Jvm.MethodName) jdk_40_method_48_code (1 : Nat) (Option.some (Jvm.ClassFile.FieldType.object "java/util/List")), Jvm.Cond.code ({ cls := "java/util/ImmutableCollections", name := "listCopy", desc := "(Ljava/util/Collection;)Ljava/util/List;" } : Jvm.MethodName) jdk_56_method_3_code (2 : Nat) (Option.some (Jvm.ClassFile.FieldType.object "java/util/List")), Jvm.Cond.code ({ cls := "java/util/ArrayList", name := "isEmpty", desc := "()Z" } : Jvm.MethodName) jdk_38_method_9_code (1 : Nat) (Option.some Jvm.ClassFile.FieldType.boolean), Jvm.Cond.code ({ cls := "java/util/ArrayList", name := "toArray", desc := "()[Ljava/lang/Object;" } : Jvm.MethodName) jdk_38_method_16_code (1 : Nat) (Option.some (Jvm.ClassFile.FieldType.array (Jvm.ClassFile.FieldType.object "java/lang/Object"))), Jvm.Cond.code ({ cls := "java/util/Arrays", name := "copyOf", desc := "([Ljava/lang/Object;I)[Ljava/lang/Object;" } : Jvm.MethodName) jdk_65_method_119_code (2 : Nat) (Option.some (Jvm.ClassFile.FieldType.array (Jvm.ClassFile.FieldType.object "java/lang/Object"))), Jvm.Cond.code ({ cls := "java/util/Arrays", name := "copyOf", desc := "([Ljava/lang/Object;ILjava/lang/Class;)[Ljava/lang/Object;" } : Jvm.MethodName) jdk_65_method_120_code (4 : Nat) (Option.some (Jvm.ClassFile.FieldType.array (Jvm.ClassFile.FieldType.object "java/lang/Object"))), Jvm.Cond.code ({ cls := "java/lang/Math", name := "min", desc := "(II)I" } : Jvm.MethodName) jdk_29_method_69_code (2 : Nat) (Option.some Jvm.ClassFile.FieldType.int), Jvm.Cond.code ({ cls := "java/util/List", name := "of", desc := "([Ljava/lang/Object;)Ljava/util/List;" } : Jvm.MethodName) jdk_40_method_47_code (2 : Nat) (Option.some (Jvm.ClassFile.FieldType.object "java/util/List")), Jvm.Cond.code ({ cls := "java/util/ImmutableCollections$List12", name := "<init>", desc := "(Ljava/lang/Object;)V" } : Jvm.MethodName) jdk_44_method_1_code (2 : Nat) (Option.none : Option Jvm.ClassFile.FieldType), Jvm.Cond.code ({ cls := "java/util/ImmutableCollections$AbstractImmutableList", name := "<init>", desc := "()V" } : Jvm.MethodName) jdk_46_method_1_code (1 : Nat) (Option.none : Option Jvm.ClassFile.FieldType), Jvm.Cond.code ({ cls := "java/util/ImmutableCollections$AbstractImmutableCollection", name := "<init>", desc := "()V" } : Jvm.MethodName) jdk_47_method_1_code (1 : Nat) (Option.none : Option Jvm.ClassFile.FieldType), Jvm.Cond.code ({ cls := "java/util/Objects", name := "requireNonNull", desc := "(Ljava/lang/Object;)Ljava/lang/Object;" } : Jvm.MethodName) jdk_31_method_10_code (1 : Nat) (Option.some (Jvm.ClassFile.FieldType.object "java/lang/Object")), Jvm.Cond.code ({ cls := "java/util/List", name := "of", desc := "()Ljava/util/List;" } : Jvm.MethodName) jdk_40_method_36_code (0 : Nat) (Option.some (Jvm.ClassFile.FieldType.object "java/util/List")), Jvm.Cond.code ({ cls := "com/example/invariant/invariant/Trace", name := "loops", desc := "()Z" } : Jvm.MethodName) prog_114_method_8_code (1 : Nat) (Option.some Jvm.ClassFile.FieldType.boolean), Jvm.Cond.code ({ cls := "com/example/invariant/invariant/Trace", name := "stuttering", desc := "()Lcom/example/invariant/invariant/Trace;" } : Jvm.MethodName) prog_114_method_4_code (1 : Nat) (Option.some (Jvm.ClassFile.FieldType.object "com/example/invariant/invariant/Trace")), Jvm.Cond.code ({ cls := "java/util/ImmutableCollections$List12", name := "size", desc := "()I" } : Jvm.MethodName) jdk_44_method_3_code (1 : Nat) (Option.some Jvm.ClassFile.FieldType.int), Jvm.Cond.code ({ cls := "com/example/invariant/invariant/Trace", name := "loopingBack", desc := "(Lcom/example/invariant/invariant/Model$Occurrence;I)Lcom/example/invariant/invariant/Trace;" } : Jvm.MethodName) prog_114_method_5_code (3 : Nat) (Option.some (Jvm.ClassFile.FieldType.object "com/example/invariant/invariant/Trace")), Jvm.Cond.code ({ cls := "java/util/ImmutableCollections$ListN", name := "size", desc := "()I" } : Jvm.MethodName) jdk_45_method_3_code (1 : Nat) (Option.some Jvm.ClassFile.FieldType.int), Jvm.Cond.code ({ cls := "com/example/invariant/invariant/Trace", name := "loop", desc := "()I" } : Jvm.MethodName) prog_114_method_10_code (1 : Nat) (Option.some Jvm.ClassFile.FieldType.int)]
set_option maxRecDepth 65536 in
theorem codes_eq : words1.filter isCode = codes1 := rfl
theorem w_codes : ∀ c ∈ words1.filter isCode, c.before args0 about1 = true := by
  rw [codes_eq]
  intro c hc
  simp only [codes1, List.mem_cons, List.not_mem_nil, or_false] at hc
  rcases hc with rfl | rfl | rfl | rfl | rfl | rfl | rfl | rfl | rfl | rfl | rfl | rfl | rfl | rfl | rfl | rfl | rfl | rfl | rfl | rfl | rfl | rfl | rfl | rfl | rfl | rfl | rfl | rfl | rfl | rfl | rfl | rfl | rfl | rfl | rfl | rfl | rfl | rfl
  · exact w_c0
  · exact w_c1
  · exact w_c2
  · exact w_c3
  · exact w_c4
  · exact w_c5
  · exact w_c6
  · exact w_c7
  · exact w_c8
  · exact w_c9
  · exact w_c10
  · exact w_c11
  · exact w_c12
  · exact w_c13
  · exact w_c14
  · exact w_c15
  · exact w_c16
  · exact w_c17
  · exact w_c18
  · exact w_c19
  · exact w_c20
  · exact w_c21
  · exact w_c22
  · exact w_c23
  · exact w_c24
  · exact w_c25
  · exact w_c26
  · exact w_c27
  · exact w_c28
  · exact w_c29
  · exact w_c30
  · exact w_c31
  · exact w_c32
  · exact w_c33
  · exact w_c34
  · exact w_c35
  · exact w_c36
  · exact w_c37
set_option maxRecDepth 65536 in
theorem w_t1 : (words1.take 24).all (fun c => isCode c || c.before args0 about1) = true := by decide +kernel
set_option maxRecDepth 65536 in
theorem w_t2 : ((words1.drop 24).take 24).all (fun c => isCode c || c.before args0 about1) = true := by decide +kernel
set_option maxRecDepth 65536 in
theorem w_t3 : (((words1.drop 24).drop 24).take 24).all (fun c => isCode c || c.before args0 about1) = true := by decide +kernel
set_option maxRecDepth 65536 in
theorem w_t4 : ((((words1.drop 24).drop 24).drop 24).take 24).all (fun c => isCode c || c.before args0 about1) = true := by decide +kernel
set_option maxRecDepth 65536 in
theorem w_t5 : (((((words1.drop 24).drop 24).drop 24).drop 24).take 24).all (fun c => isCode c || c.before args0 about1) = true := by decide +kernel
set_option maxRecDepth 65536 in
theorem w_t6 : ((((((words1.drop 24).drop 24).drop 24).drop 24).drop 24).take 24).all (fun c => isCode c || c.before args0 about1) = true := by decide +kernel
set_option maxRecDepth 65536 in
theorem w_t7 : (((((((words1.drop 24).drop 24).drop 24).drop 24).drop 24).drop 24).take 24).all (fun c => isCode c || c.before args0 about1) = true := by decide +kernel
set_option maxRecDepth 65536 in
theorem w_t8 : ((((((((words1.drop 24).drop 24).drop 24).drop 24).drop 24).drop 24).drop 24).take 24).all (fun c => isCode c || c.before args0 about1) = true := by decide +kernel
set_option maxRecDepth 65536 in
theorem w_t9 : (((((((((words1.drop 24).drop 24).drop 24).drop 24).drop 24).drop 24).drop 24).drop 24).take 24).all (fun c => isCode c || c.before args0 about1) = true := by decide +kernel
set_option maxRecDepth 65536 in
theorem w_t10 : ((((((((((words1.drop 24).drop 24).drop 24).drop 24).drop 24).drop 24).drop 24).drop 24).drop 24).take 24).all (fun c => isCode c || c.before args0 about1) = true := by decide +kernel
set_option maxRecDepth 65536 in
theorem w_t11 : (((((((((((words1.drop 24).drop 24).drop 24).drop 24).drop 24).drop 24).drop 24).drop 24).drop 24).drop 24).take 24).all (fun c => isCode c || c.before args0 about1) = true := by decide +kernel
set_option maxRecDepth 65536 in
theorem w_t12 : (((((((((((words1.drop 24).drop 24).drop 24).drop 24).drop 24).drop 24).drop 24).drop 24).drop 24).drop 24).drop 24).all (fun c => isCode c || c.before args0 about1) = true := by decide +kernel
theorem w_tables : (allAtoms (Jvm.Cond.code x code maxLocals ret :: tables_1)).before args0 about1 = true := by
  rw [allAtoms_all]
  show words1.all (fun c => c.before args0 about1) = true
  refine all_split ?_ w_codes
  rw [← List.take_append_drop 24 words1, List.all_append, w_t1, ← List.take_append_drop 24 (words1.drop 24), List.all_append, w_t2, ← List.take_append_drop 24 ((words1.drop 24).drop 24), List.all_append, w_t3, ← List.take_append_drop 24 (((words1.drop 24).drop 24).drop 24), List.all_append, w_t4, ← List.take_append_drop 24 ((((words1.drop 24).drop 24).drop 24).drop 24), List.all_append, w_t5, ← List.take_append_drop 24 (((((words1.drop 24).drop 24).drop 24).drop 24).drop 24), List.all_append, w_t6, ← List.take_append_drop 24 ((((((words1.drop 24).drop 24).drop 24).drop 24).drop 24).drop 24), List.all_append, w_t7, ← List.take_append_drop 24 (((((((words1.drop 24).drop 24).drop 24).drop 24).drop 24).drop 24).drop 24), List.all_append, w_t8, ← List.take_append_drop 24 ((((((((words1.drop 24).drop 24).drop 24).drop 24).drop 24).drop 24).drop 24).drop 24), List.all_append, w_t9, ← List.take_append_drop 24 (((((((((words1.drop 24).drop 24).drop 24).drop 24).drop 24).drop 24).drop 24).drop 24).drop 24), List.all_append, w_t10, ← List.take_append_drop 24 ((((((((((words1.drop 24).drop 24).drop 24).drop 24).drop 24).drop 24).drop 24).drop 24).drop 24).drop 24), List.all_append, w_t11, w_t12]
  rfl
set_option maxRecDepth 65536 in
theorem w_rest : rest_1_c.before args0 about1 = true := by decide +kernel
set_option maxRecDepth 65536 in
theorem w_case : (Jvm.Cond.and given_1 narrow_1).before args0 about1 = true := by decide +kernel
theorem w_applies : (headSpec (Jvm.Cond.code x code maxLocals ret :: tables_1) room_1).applies x e0.platform about1 = true :=
  (Spec.applies_iff w_frames).mpr ⟨w_running, w_runnable, w_alone, w_named, w_hears, w_ripe, w_room, w_tables⟩
theorem atStart : AtStart classFile x code maxLocals ret World_1 tables_1 room_1 Calls_1 rest_1 Pre_1 launch0 p0 e0 about1 theMethod args0 below0 :=
  ⟨lists_1, trivial, launch0.admits_env _ _ _, launch0.least_env, fairChoices_fair.cas, fairChoices_fair.clock, w_frames, w_args, w_heap, w_applies, ⟨⟨36, k36, 3, by decide +kernel, rfl, rfl, _, rfl, rfl⟩, trivial⟩, w_rest, w_case⟩
end start1
theorem witness_1 : WitnessClaimed_1 := ⟨start1.p0, start1.e0, start1.about1, start1.theMethod, start1.args0, start1.below0, start1.atStart⟩
end Jvm.Pilot.@@N@@
