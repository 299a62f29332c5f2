import JvmDerived
import JvmDerived.Pilot.@@N@@Statement
import JvmDerived.Pilot.@@N@@Code
set_option linter.unusedVariables false
set_option linter.unusedSimpArgs false
namespace Jvm.RoadKit
open Sem ClassFile Op Lib Jvm.Stand Jvm.Free Jvm.LawKit
section New
variable {p : Program} {l : Launch} {e : Env} {R : Room} {s : State} {m : MethodId} {args : Array Value} {below : List Frame} {meth : Method} {c : Code} {T : State} {locs : List Loc} {cells slots : Nat}
theorem retI (X : Stand p l e R s m args below meth c T locs cells slots) (hx : p.tables.exec = Jvm.exec) {pc : Nat} {Ls : Array Slot} {z : Int32} {rest : List Value} (hret : meth.sig.returnType = some .int) (hd : decode c.code pc = .ok (.ireturn, 1)) {fs : List Frame}
    (hl : ∀ (f : JFrame) (acts : List Action), f.method = m → f.locked = none → f.entered = [] → (doReturn e (T.setTop f) acts (some (.int z))).1 = T.setFrames fs) : Steps p.tables e below (T.setTop (mkF m pc Ls (.int z :: rest))) (T.setFrames fs) := by
  have hm' : T.vm.method? m = some meth := X.method'
  have hn : narrow .int (.int z) = .int z := rfl
  show Steps p.tables e below (T.setTop { method := m, pc := pc, locals := Ls, stack := _ :: rest, locked := none }) _
  jvm_step X.here [X.here.top, hx, hd, hm', hret, hn]
  first | (intro acts; rw [hl _ acts rfl rfl rfl]) | rw [hl _ _ rfl rfl rfl]
  exact Steps.refl _
end New
end Jvm.RoadKit
namespace Jvm.Pilot.@@N@@
open Jvm Jvm.ClassFile Sem Op Lib Jvm.Free Jvm.Stand Jvm.LawKit Jvm.RoadKit Bundle Jvm.Pilot.@@N@@.Jvm.D
def QT (n0 : Nat) (v : Option Value) (h : Heap) (L : List Loc) : Prop := v = some (.int 1) ∧ Fr n0 L
def QP (r : Option Value) (h0 : Heap) (n0 : Nat) (v : Option Value) (h : Heap) (L : List Loc) : Prop := v = r ∧ Fr n0 L ∧ h = h0
theorem own_fld {Z : State} {args : Array Value} {t : Term} {C n d : String} {a : Addr} {i : Int32} (ev : t.eval args Z none [] Z = some (.ref a)) (h : (Cond.eq (Term.field t C n d) (Term.int i)).value args Z none Z [] = some true) : Fld Z Z.heap a C n d (.int i) := by
  have e := fld_at (C := C) (n := n) (dd := d) ev
  refine Fld.start ?_
  obtain ⟨x, y, h1, h2, k1, k2⟩ := cmp_v (Or.inl h)
  have h3 : y = .int i := (Option.some.inj ((Term.int_eval i).symm.trans h2)).symm
  subst h3
  obtain ⟨z, rfl⟩ := k2
  have q : z = i := by simpa [Cond.value, h1, h2] using h
  rw [← e, h1, q]
theorem own_and7 (x : Int32) : (x &&& (7 : Int32)) = (0 : Int32) ∨ (x &&& (7 : Int32)) = (1 : Int32) ∨ (x &&& (7 : Int32)) = (2 : Int32) ∨ (x &&& (7 : Int32)) = (3 : Int32) ∨ (x &&& (7 : Int32)) = (4 : Int32) ∨ (x &&& (7 : Int32)) = (5 : Int32) ∨ (x &&& (7 : Int32)) = (6 : Int32) ∨ (x &&& (7 : Int32)) = (7 : Int32) := by
  have h := c_and x (7 : Int32) (by decide)
  have e : (7 : Int32).toInt = 7 := by decide
  have e0 : (0 : Int32).toInt = 0 := by decide
  have e1 : (1 : Int32).toInt = 1 := by decide
  have e2 : (2 : Int32).toInt = 2 := by decide
  have e3 : (3 : Int32).toInt = 3 := by decide
  have e4 : (4 : Int32).toInt = 4 := by decide
  have e5 : (5 : Int32).toInt = 5 := by decide
  have e6 : (6 : Int32).toInt = 6 := by decide
  have e7 : (7 : Int32).toInt = 7 := by decide
  simp only [← Int32.toInt_inj, e0, e1, e2, e3, e4, e5, e6, e7]
  omega
theorem own_and1 (x : Int32) : (x &&& (1 : Int32)) = (0 : Int32) ∨ (x &&& (1 : Int32)) = (1 : Int32) := by
  have h := c_and x (1 : Int32) (by decide)
  have e : (1 : Int32).toInt = 1 := by decide
  have e0 : (0 : Int32).toInt = 0 := by decide
  have e1 : (1 : Int32).toInt = 1 := by decide
  simp only [← Int32.toInt_inj, e0, e1]
  omega
theorem own_lcmp (a b : Int64) : lcmpW a b = (-1 : Int32) ∨ lcmpW a b = (0 : Int32) ∨ lcmpW a b = (1 : Int32) := by
  by_cases h1 : a > b
  · exact Or.inr (Or.inr (if_pos h1))
  · by_cases h2 : a = b
    · exact Or.inr (Or.inl ((if_neg h1).trans (if_pos h2)))
    · exact Or.inl ((if_neg h1).trans (if_neg h2))
theorem tw_5 {a0 : Array Value} {Z : State} (hw : ∀ d ∈ tables_1, d.before a0 Z = true) : (Jvm.Cond.initialized "com/example/floe/floe/Expression$Operation").before a0 Z = true := hw _ (List.mem_of_getElem? (i := 5) rfl)
theorem tw_6 {a0 : Array Value} {Z : State} (hw : ∀ d ∈ tables_1, d.before a0 Z = true) : (Jvm.Cond.laysStatic "com/example/floe/floe/Expression$Operation" "EQ" "Lcom/example/floe/floe/Expression$Operation;").before a0 Z = true := hw _ (List.mem_of_getElem? (i := 6) rfl)
abbrev S_0 (Z : State) (h : Heap) (v : Value) : Prop := Sta Z h "com/example/floe/floe/Expression$Operation" "EQ" "Lcom/example/floe/floe/Expression$Operation;" v
abbrev E_0 (Z : State) (h : Heap) (a : Addr) : Prop := Exa Z h a "com/example/floe/floe/Expression$Operation"
theorem tw_22 {a0 : Array Value} {Z : State} (hw : ∀ d ∈ tables_1, d.before a0 Z = true) : (Jvm.Cond.laysStatic "com/example/floe/floe/Expression$Operation" "NOT_EQ" "Lcom/example/floe/floe/Expression$Operation;").before a0 Z = true := hw _ (List.mem_of_getElem? (i := 22) rfl)
abbrev S_1 (Z : State) (h : Heap) (v : Value) : Prop := Sta Z h "com/example/floe/floe/Expression$Operation" "NOT_EQ" "Lcom/example/floe/floe/Expression$Operation;" v
theorem tw_29 {a0 : Array Value} {Z : State} (hw : ∀ d ∈ tables_1, d.before a0 Z = true) : (Jvm.Cond.laysStatic "com/example/floe/floe/Expression$Operation" "IS_NULL" "Lcom/example/floe/floe/Expression$Operation;").before a0 Z = true := hw _ (List.mem_of_getElem? (i := 29) rfl)
abbrev S_2 (Z : State) (h : Heap) (v : Value) : Prop := Sta Z h "com/example/floe/floe/Expression$Operation" "IS_NULL" "Lcom/example/floe/floe/Expression$Operation;" v
theorem tw_31 {a0 : Array Value} {Z : State} (hw : ∀ d ∈ tables_1, d.before a0 Z = true) : (Jvm.Cond.laysStatic "com/example/floe/floe/Expression$Operation" "NOT_NULL" "Lcom/example/floe/floe/Expression$Operation;").before a0 Z = true := hw _ (List.mem_of_getElem? (i := 31) rfl)
abbrev S_3 (Z : State) (h : Heap) (v : Value) : Prop := Sta Z h "com/example/floe/floe/Expression$Operation" "NOT_NULL" "Lcom/example/floe/floe/Expression$Operation;" v
theorem tw_39 {a0 : Array Value} {Z : State} (hw : ∀ d ∈ tables_1, d.before a0 Z = true) : (Jvm.Cond.laysStatic "com/example/floe/floe/Expression$Operation" "LT" "Lcom/example/floe/floe/Expression$Operation;").before a0 Z = true := hw _ (List.mem_of_getElem? (i := 39) rfl)
abbrev S_4 (Z : State) (h : Heap) (v : Value) : Prop := Sta Z h "com/example/floe/floe/Expression$Operation" "LT" "Lcom/example/floe/floe/Expression$Operation;" v
theorem tw_41 {a0 : Array Value} {Z : State} (hw : ∀ d ∈ tables_1, d.before a0 Z = true) : (Jvm.Cond.laysStatic "com/example/floe/floe/Expression$Operation" "GT_EQ" "Lcom/example/floe/floe/Expression$Operation;").before a0 Z = true := hw _ (List.mem_of_getElem? (i := 41) rfl)
abbrev S_5 (Z : State) (h : Heap) (v : Value) : Prop := Sta Z h "com/example/floe/floe/Expression$Operation" "GT_EQ" "Lcom/example/floe/floe/Expression$Operation;" v
theorem tw_43 {a0 : Array Value} {Z : State} (hw : ∀ d ∈ tables_1, d.before a0 Z = true) : (Jvm.Cond.laysStatic "com/example/floe/floe/Expression$Operation" "LT_EQ" "Lcom/example/floe/floe/Expression$Operation;").before a0 Z = true := hw _ (List.mem_of_getElem? (i := 43) rfl)
abbrev S_6 (Z : State) (h : Heap) (v : Value) : Prop := Sta Z h "com/example/floe/floe/Expression$Operation" "LT_EQ" "Lcom/example/floe/floe/Expression$Operation;" v
theorem tw_45 {a0 : Array Value} {Z : State} (hw : ∀ d ∈ tables_1, d.before a0 Z = true) : (Jvm.Cond.laysStatic "com/example/floe/floe/Expression$Operation" "GT" "Lcom/example/floe/floe/Expression$Operation;").before a0 Z = true := hw _ (List.mem_of_getElem? (i := 45) rfl)
abbrev S_7 (Z : State) (h : Heap) (v : Value) : Prop := Sta Z h "com/example/floe/floe/Expression$Operation" "GT" "Lcom/example/floe/floe/Expression$Operation;" v
abbrev F_0 (Z : State) (h : Heap) (a : Addr) (v : Value) : Prop := Fld Z h a "java/lang/Enum" "ordinal" "I" v
theorem tw_0 {a0 : Array Value} {Z : State} (hw : ∀ d ∈ tables_1, d.before a0 Z = true) : (Jvm.Cond.methodLink "com/example/floe/floe/OperationNegatePinLaw" (34 : Nat) ({ cls := "com/example/floe/floe/OperationNegatePinLaw", name := "pick", desc := "(I)Lcom/example/floe/floe/Expression$Operation;" } : Jvm.MethodName)).before a0 Z = true := hw _ (List.mem_of_getElem? (i := 0) rfl)
theorem tw_3 {a0 : Array Value} {Z : State} (hw : ∀ d ∈ tables_1, d.before a0 Z = true) : (Jvm.Cond.code ({ cls := "com/example/floe/floe/OperationNegatePinLaw", name := "pick", desc := "(I)Lcom/example/floe/floe/Expression$Operation;" } : Jvm.MethodName) method_2_code (2 : Nat) (Option.some (Jvm.ClassFile.FieldType.object "com/example/floe/floe/Expression$Operation"))).before a0 Z = true := hw _ (List.mem_of_getElem? (i := 3) rfl)
theorem d1_0 : decode method_2_code 0 = .ok (.iload_n 0, 1) := by decide +kernel
theorem d1_1 : decode method_2_code 1 = .ok (.bipush 7, 2) := by decide +kernel
theorem d1_3 : decode method_2_code 3 = .ok (.iand, 1) := by decide +kernel
theorem d1_4 : decode method_2_code 4 = .ok (.istore_n 1, 1) := by decide +kernel
theorem d1_5 : decode method_2_code 5 = .ok (.iload_n 1, 1) := by decide +kernel
theorem d1_6 : decode method_2_code 6 = .ok (.ifCond .ne 7, 3) := by decide +kernel
theorem d1_9 : decode method_2_code 9 = .ok (.getstatic 7, 3) := by decide +kernel
theorem tw_4 {a0 : Array Value} {Z : State} (hw : ∀ d ∈ tables_1, d.before a0 Z = true) : (Jvm.Cond.fieldLink "com/example/floe/floe/OperationNegatePinLaw" (7 : Nat) "com/example/floe/floe/Expression$Operation" "EQ" "Lcom/example/floe/floe/Expression$Operation;").before a0 Z = true := hw _ (List.mem_of_getElem? (i := 4) rfl)
theorem d1_12 : decode method_2_code 12 = .ok (.areturn, 1) := by decide +kernel
abbrev R_0_0_0_0 : Room := { frames := 0, cells := 0, slots := 0, locals := 0 }
abbrev M_0 : MethodName := ⟨"com/example/floe/floe/OperationNegatePinLaw", "pick", "(I)Lcom/example/floe/floe/Expression$Operation;"⟩
theorem ef1_I (m : MethodId) (x0 : Int32) : entryFrame m #[(.int x0)] 2 = mkF m 0 #[.val (.int x0), .unset] [] := by first | (simp [entryFrame, mkF, argsToLocals, Value.category]; done) | rfl
theorem pn_com_example_floe_floe_OperationNegatePinLaw : plainName "com/example/floe/floe/OperationNegatePinLaw" = true := by first | (simp [plainName, overriddenIn]; done) | decide +kernel
set_option maxRecDepth 65536 in
set_option maxHeartbeats 40000000 in
theorem rm1_31 (l : Launch) (Z : State) (a0 : Array Value) (hw : ∀ d ∈ tables_1, d.before a0 Z = true) (ws : List Jvm.Cond) (p0 : Int32) (a_EQ : Addr) (h0 : Heap) (n0 : Nat) (Z0 : n0 ≤ h0.size) (f1 : (p0 &&& (7 : Int32)) = (0 : Int32)) (f2 : S_0 Z h0 (.ref a_EQ)) :
    MetFree l M_0 (head1 (Jvm.Cond.code M_0 method_2_code 2 (some (.object "com/example/floe/floe/Expression$Operation")) :: ws) R_0_0_0_0) (fun a U => a = #[(.int p0)] ∧ Z.Warmed39 U.vm ∧ U.heap = h0) (fun _ _ _ _ _ => True) (fun _ U o U' => ∃ v L, o = .returned v ∧ QP (some (.ref a_EQ)) h0 n0 v U'.heap L ∧ FrameEnd U o U' L R_0_0_0_0.cells R_0_0_0_0.slots) := by
  refine MetFree.of_bodySF (plainFor_of_name pn_com_example_floe_floe_OperationNegatePinLaw) hisR ?_
  intro p e s m args below meth c s₁ Bd hml0 hP hK
  obtain ⟨rfl, hZ, hh⟩ := hP
  have hx := Bd.exec
  have hby := Bd.bytes
  have hml : c.maxLocals = 2 := hml0
  have hown : s.vm.findClass "com/example/floe/floe/OperationNegatePinLaw" = some m.cls := findClass_of_methodNamed Bd.named
  have hnm := (name_of_methodNamed Bd.named Bd.method).1
  have X0 : Stand p l e R_0_0_0_0 s m #[(.int p0)] below meth c s₁ [] 0 0 := Stand.of_body Bd
  have e0 : s₁.heap = h0 := by rw [← hh, Bd.state]; rfl
  have N0 := Fr.nil n0
  obtain ⟨T1, X1, e1, st1⟩ := getS2 X0 hx hZ hown (host := "") (Or.inl (tw_4 hw)) Via.refl e0 f2 (g := (mkF m 9 #[.val (.int p0), .val (.int 0)] [])) rfl (hb hby d1_9)
  obtain ⟨fs, hr, hrun, hended, hW, hsame⟩ := X1.leave (v := (some (.ref a_EQ))) (fun h => by rw [Bd.returns] at h; cases h)
  refine ⟨_, _, castTop (ef1_I m p0) ?_, hrun, hended, _, _, rfl, ?_, ⟨_, rfl⟩, hW, hsame.mono (by decide) (by decide)⟩
  · show Steps p.tables e below (s₁.setTop (mkF m 0 #[.val (.int p0), .unset] [])) _
    refine XS.iloadN X0.here hx rfl (hb hby d1_0) rfl ?_
    refine XS.bipush X0.here hx rfl (hb hby d1_1) ?_
    show Steps p.tables e below (s₁.setTop (mkF m 3 #[.val (.int p0), .unset] [(.int 7), (.int p0)])) _
    refine XS.iand X0.here hx rfl (hb hby d1_3) rfl ?_
    show Steps p.tables e below (s₁.setTop (mkF m 4 #[.val (.int p0), .unset] [(.int (p0 &&& (7 : Int32)))])) _
    rw [f1]
    refine XS.istoreN X0.here hx rfl (hb hby d1_4) rfl (l' := #[.val (.int p0), .val (.int 0)]) rfl ?_
    refine XS.iloadN X0.here hx rfl (hb hby d1_5) rfl ?_
    refine XS.ifNo X0.here hx rfl (hb hby d1_6) rfl (by decide) ?_
    show Steps p.tables e below (s₁.setTop (mkF m 9 #[.val (.int p0), .val (.int 0)] [])) _
    refine st1 _ ?_
    show Steps p.tables e below (T1.setTop (mkF m 12 #[.val (.int p0), .val (.int 0)] [(.ref a_EQ)])) _
    jvm_step X1.here [X1.here.top, hx, (hb hby d1_12), X1.method', Bd.returns, Value.isRef, FieldType.isReference]
    first | (intro acts; rw [hr _ acts rfl rfl rfl]) | rw [hr _ _ rfl rfl rfl]
    exact Steps.refl _
  · show QP (some (.ref a_EQ)) h0 n0 _ T1.heap _
    rw [e1]
    exact ⟨rfl, N0, rfl⟩
theorem tw_2 {a0 : Array Value} {Z : State} (hw : ∀ d ∈ tables_1, d.before a0 Z = true) : (Jvm.Cond.initialized "com/example/floe/floe/OperationNegatePinLaw").before a0 Z = true := hw _ (List.mem_of_getElem? (i := 2) rfl)
theorem pd_0 : parseMethodDescriptor "(I)Lcom/example/floe/floe/Expression$Operation;" = some ⟨[.int], some (.object "com/example/floe/floe/Expression$Operation")⟩ := by decide +kernel
theorem tw_1 {a0 : Array Value} {Z : State} (hw : ∀ d ∈ tables_1, d.before a0 Z = true) : (Jvm.Cond.static ({ cls := "com/example/floe/floe/OperationNegatePinLaw", name := "pick", desc := "(I)Lcom/example/floe/floe/Expression$Operation;" } : Jvm.MethodName)).before a0 Z = true := hw _ (List.mem_of_getElem? (i := 1) rfl)
theorem tw_7 {a0 : Array Value} {Z : State} (hw : ∀ d ∈ tables_1, d.before a0 Z = true) : (Jvm.Cond.methodLink "com/example/floe/floe/OperationNegatePinLaw" (40 : Nat) ({ cls := "com/example/floe/floe/Expression$Operation", name := "negate", desc := "()Lcom/example/floe/floe/Expression$Operation;" } : Jvm.MethodName)).before a0 Z = true := hw _ (List.mem_of_getElem? (i := 7) rfl)
theorem tw_11 {a0 : Array Value} {Z : State} (hw : ∀ d ∈ tables_1, d.before a0 Z = true) : (Jvm.Cond.code ({ cls := "com/example/floe/floe/Expression$Operation", name := "negate", desc := "()Lcom/example/floe/floe/Expression$Operation;" } : Jvm.MethodName) prog_13_method_7_code (1 : Nat) (Option.some (Jvm.ClassFile.FieldType.object "com/example/floe/floe/Expression$Operation"))).before a0 Z = true := hw _ (List.mem_of_getElem? (i := 11) rfl)
theorem d2_0 : decode prog_13_method_7_code 0 = .ok (.aload_n 0, 1) := by decide +kernel
theorem d2_1 : decode prog_13_method_7_code 1 = .ok (.invokevirtual 51, 3) := by decide +kernel
theorem tw_12 {a0 : Array Value} {Z : State} (hw : ∀ d ∈ tables_1, d.before a0 Z = true) : (Jvm.Cond.methodLink "com/example/floe/floe/Expression$Operation" (51 : Nat) ({ cls := "com/example/floe/floe/Expression$Operation", name := "ordinal", desc := "()I" } : Jvm.MethodName)).before a0 Z = true := hw _ (List.mem_of_getElem? (i := 12) rfl)
theorem tw_18 {a0 : Array Value} {Z : State} (hw : ∀ d ∈ tables_1, d.before a0 Z = true) : (Jvm.Cond.code ({ cls := "java/lang/Enum", name := "ordinal", desc := "()I" } : Jvm.MethodName) jdk_37_method_2_code (1 : Nat) (Option.some Jvm.ClassFile.FieldType.int)).before a0 Z = true := hw _ (List.mem_of_getElem? (i := 18) rfl)
theorem d3_0 : decode jdk_37_method_2_code 0 = .ok (.aload_n 0, 1) := by decide +kernel
theorem d3_1 : decode jdk_37_method_2_code 1 = .ok (.getfield 7, 3) := by decide +kernel
theorem tw_19 {a0 : Array Value} {Z : State} (hw : ∀ d ∈ tables_1, d.before a0 Z = true) : (Jvm.Cond.fieldLink "java/lang/Enum" (7 : Nat) "java/lang/Enum" "ordinal" "I").before a0 Z = true := hw _ (List.mem_of_getElem? (i := 19) rfl)
theorem d3_4 : decode jdk_37_method_2_code 4 = .ok (.ireturn, 1) := by decide +kernel
abbrev M_1 : MethodName := ⟨"java/lang/Enum", "ordinal", "()I"⟩
theorem ef3_R (m : MethodId) (x0 : Addr) : entryFrame m #[(.ref x0)] 1 = mkF m 0 #[.val (.ref x0)] [] := by first | (simp [entryFrame, mkF, argsToLocals, Value.category]; done) | rfl
theorem pn_java_lang_Enum : plainName "java/lang/Enum" = true := by first | (simp [plainName, overriddenIn]; done) | decide +kernel
set_option maxRecDepth 65536 in
set_option maxHeartbeats 40000000 in
theorem rm3_32 (l : Launch) (Z : State) (a0 : Array Value) (hw : ∀ d ∈ tables_1, d.before a0 Z = true) (ws : List Jvm.Cond) (a_EQ : Addr) (h0 : Heap) (n0 : Nat) (Z0 : n0 ≤ h0.size) (f1 : F_0 Z h0 a_EQ (.int 0)) :
    MetFree l M_1 (head1 (Jvm.Cond.code M_1 jdk_37_method_2_code 1 (some .int) :: ws) R_0_0_0_0) (fun a U => a = #[(.ref a_EQ)] ∧ Z.Warmed39 U.vm ∧ U.heap = h0) (fun _ _ _ _ _ => True) (fun _ U o U' => ∃ v L, o = .returned v ∧ QP (some (.int 0)) h0 n0 v U'.heap L ∧ FrameEnd U o U' L R_0_0_0_0.cells R_0_0_0_0.slots) := by
  refine MetFree.of_bodySF (plainFor_of_name pn_java_lang_Enum) hisR ?_
  intro p e s m args below meth c s₁ Bd hml0 hP hK
  obtain ⟨rfl, hZ, hh⟩ := hP
  have hx := Bd.exec
  have hby := Bd.bytes
  have hml : c.maxLocals = 1 := hml0
  have hown : s.vm.findClass "java/lang/Enum" = some m.cls := findClass_of_methodNamed Bd.named
  have hnm := (name_of_methodNamed Bd.named Bd.method).1
  have X0 : Stand p l e R_0_0_0_0 s m #[(.ref a_EQ)] below meth c s₁ [] 0 0 := Stand.of_body Bd
  have e0 : s₁.heap = h0 := by rw [← hh, Bd.state]; rfl
  have N0 := Fr.nil n0
  obtain ⟨T1, X1, e1, st1⟩ := getF X0 hx hZ hown (host := "") (Or.inl (tw_19 hw)) Via.refl e0 f1 (g := (mkF m 1 #[.val (.ref a_EQ)] [(.ref a_EQ)])) rfl rfl (hb hby d3_1)
  obtain ⟨fs, hr, hrun, hended, hW, hsame⟩ := X1.leave (v := (some (.int 0))) (fun h => by rw [Bd.returns] at h; cases h)
  refine ⟨_, _, castTop (ef3_R m a_EQ) ?_, hrun, hended, _, _, rfl, ?_, ⟨_, rfl⟩, hW, hsame.mono (by decide) (by decide)⟩
  · show Steps p.tables e below (s₁.setTop (mkF m 0 #[.val (.ref a_EQ)] [])) _
    refine XS.aloadN X0.here hx rfl (hb hby d3_0) rfl rfl ?_
    show Steps p.tables e below (s₁.setTop (mkF m 1 #[.val (.ref a_EQ)] [(.ref a_EQ)])) _
    refine st1 _ ?_
    show Steps p.tables e below (T1.setTop (mkF m 4 #[.val (.ref a_EQ)] [(.int 0)])) _
    exact retI X1 hx Bd.returns (hb hby d3_4) hr
  · show QP (some (.int 0)) h0 n0 _ T1.heap _
    rw [e1]
    exact ⟨rfl, N0, rfl⟩
theorem tw_17 {a0 : Array Value} {Z : State} (hw : ∀ d ∈ tables_1, d.before a0 Z = true) : (Jvm.Cond.initialized "java/lang/Enum").before a0 Z = true := hw _ (List.mem_of_getElem? (i := 17) rfl)
theorem pd_1 : parseMethodDescriptor "()I" = some ⟨[], some .int⟩ := by decide +kernel
theorem tw_16 {a0 : Array Value} {Z : State} (hw : ∀ d ∈ tables_1, d.before a0 Z = true) : (Jvm.Cond.selects "com/example/floe/floe/Expression$Operation" ({ cls := "com/example/floe/floe/Expression$Operation", name := "ordinal", desc := "()I" } : Jvm.MethodName) ({ cls := "java/lang/Enum", name := "ordinal", desc := "()I" } : Jvm.MethodName)).before a0 Z = true := hw _ (List.mem_of_getElem? (i := 16) rfl)
abbrev M_2 : MethodName := ⟨"com/example/floe/floe/Expression$Operation", "ordinal", "()I"⟩
theorem tw_13 {a0 : Array Value} {Z : State} (hw : ∀ d ∈ tables_1, d.before a0 Z = true) : (Jvm.Cond.sameMethod "com/example/floe/floe/Expression$Operation" "java/lang/Enum" "ordinal" "()I").before a0 Z = true := hw _ (List.mem_of_getElem? (i := 13) rfl)
theorem tw_14 {a0 : Array Value} {Z : State} (hw : ∀ d ∈ tables_1, d.before a0 Z = true) : (Jvm.Cond.declares ({ cls := "java/lang/Enum", name := "ordinal", desc := "()I" } : Jvm.MethodName)).before a0 Z = true := hw _ (List.mem_of_getElem? (i := 14) rfl)
theorem tw_15 {a0 : Array Value} {Z : State} (hw : ∀ d ∈ tables_1, d.before a0 Z = true) : (Jvm.Cond.instanceMethod ({ cls := "java/lang/Enum", name := "ordinal", desc := "()I" } : Jvm.MethodName)).before a0 Z = true := hw _ (List.mem_of_getElem? (i := 15) rfl)
theorem d2_4 : decode prog_13_method_7_code 4 = .ok (.tableswitch 48 0 7 #[58, 64, 70, 76, 82, 88, 94, 100], 48) := by decide +kernel
theorem d2_62 : decode prog_13_method_7_code 62 = .ok (.getstatic 7, 3) := by decide +kernel
theorem tw_21 {a0 : Array Value} {Z : State} (hw : ∀ d ∈ tables_1, d.before a0 Z = true) : (Jvm.Cond.fieldLink "com/example/floe/floe/Expression$Operation" (7 : Nat) "com/example/floe/floe/Expression$Operation" "NOT_EQ" "Lcom/example/floe/floe/Expression$Operation;").before a0 Z = true := hw _ (List.mem_of_getElem? (i := 21) rfl)
theorem d2_65 : decode prog_13_method_7_code 65 = .ok (.goto 42, 3) := by decide +kernel
theorem d2_107 : decode prog_13_method_7_code 107 = .ok (.areturn, 1) := by decide +kernel
abbrev R_1_0_0_12 : Room := { frames := 1, cells := 0, slots := 0, locals := 12 }
abbrev M_3 : MethodName := ⟨"com/example/floe/floe/Expression$Operation", "negate", "()Lcom/example/floe/floe/Expression$Operation;"⟩
theorem ef2_R (m : MethodId) (x0 : Addr) : entryFrame m #[(.ref x0)] 1 = mkF m 0 #[.val (.ref x0)] [] := by first | (simp [entryFrame, mkF, argsToLocals, Value.category]; done) | rfl
theorem pn_com_example_floe_floe_Expression_Operation : plainName "com/example/floe/floe/Expression$Operation" = true := by first | (simp [plainName, overriddenIn]; done) | decide +kernel
set_option maxRecDepth 65536 in
set_option maxHeartbeats 40000000 in
theorem rm2_33 (l : Launch) (Z : State) (a0 : Array Value) (hw : ∀ d ∈ tables_1, d.before a0 Z = true) (ws : List Jvm.Cond) (a_EQ : Addr) (a_NOT_EQ : Addr) (h0 : Heap) (n0 : Nat) (Z0 : n0 ≤ h0.size) (f1 : F_0 Z h0 a_EQ (.int 0)) (f2 : E_0 Z h0 a_EQ) (f3 : S_1 Z h0 (.ref a_NOT_EQ)) :
    MetFree l M_3 (head1 (Jvm.Cond.code M_3 prog_13_method_7_code 1 (some (.object "com/example/floe/floe/Expression$Operation")) :: ws) R_1_0_0_12) (fun a U => a = #[(.ref a_EQ)] ∧ Z.Warmed39 U.vm ∧ U.heap = h0) (fun _ _ _ _ _ => True) (fun _ U o U' => ∃ v L, o = .returned v ∧ QP (some (.ref a_NOT_EQ)) h0 n0 v U'.heap L ∧ FrameEnd U o U' L R_1_0_0_12.cells R_1_0_0_12.slots) := by
  refine MetFree.of_bodySF (plainFor_of_name pn_com_example_floe_floe_Expression_Operation) hisR ?_
  intro p e s m args below meth c s₁ Bd hml0 hP hK
  obtain ⟨rfl, hZ, hh⟩ := hP
  have hx := Bd.exec
  have hby := Bd.bytes
  have hml : c.maxLocals = 1 := hml0
  have hown : s.vm.findClass "com/example/floe/floe/Expression$Operation" = some m.cls := findClass_of_methodNamed Bd.named
  have hnm := (name_of_methodNamed Bd.named Bd.method).1
  have X0 : Stand p l e R_1_0_0_12 s m #[(.ref a_EQ)] below meth c s₁ [] 0 0 := Stand.of_body Bd
  have e0 : s₁.heap = h0 := by rw [← hh, Bd.state]; rfl
  have N0 := Fr.nil n0
  -- pc 1: java/lang/Enum.ordinal
  obtain ⟨cq1, kq1, q1a, q1b, q1c⟩ := isOf hZ e0 f2
  obtain ⟨_, _, ⟨T1, L1, k1, n1⟩, -, X1, ⟨Lc1, hQ1, l1, y1, z1⟩, st1⟩ := X0.virtualBackUp hx (x := M_2) (y := M_1) (owner := "java/lang/Enum") hown (mvT hZ (tw_12 hw)) (mvT hZ (tw_13 hw)) (mvT hZ (tw_14 hw)) (by decide) (mvT hZ (tw_16 hw)) (mvT hZ (tw_15 hw)) (backOf (W := 0) (rm3_32 l Z a0 hw [] a_EQ h0 n0 Z0 f1) hZ (tw_18 hw) (tw_17 hw) (by decide) (by decide)) q1a q1c (g := (mkF m 1 #[.val (.ref a_EQ)] [(.ref a_EQ)])) rfl (by rw [hml]; rfl) (Steps.refl _) (argsL := []) (rest := []) (lenOf pd_1 rfl) rfl (by show 2 * 0 + _ ≤ _; exact Nat.le_of_eq rfl) (hb hby d2_1) (fun _ _ => ⟨rfl, e0, (by decide : 0 + 0 ≤ _), (by decide : 0 + 0 ≤ _)⟩)
  dsimp only [Pt.U, Pt.locs, Pt.cells, Pt.slots] at X1 l1 y1 z1 st1 hQ1
  subst l1 y1 z1
  obtain ⟨rfl, Nq1, e1⟩ := hQ1
  have N1 := Fr.app N0 Nq1
  obtain ⟨T2, X2, e2, st2⟩ := getS2 X1 hx hZ hown (host := "") (Or.inl (tw_21 hw)) Via.refl e1 f3 (g := (mkF m 62 #[.val (.ref a_EQ)] [])) rfl (hb hby d2_62)
  obtain ⟨fs, hr, hrun, hended, hW, hsame⟩ := X2.leave (v := (some (.ref a_NOT_EQ))) (fun h => by rw [Bd.returns] at h; cases h)
  refine ⟨_, _, castTop (ef2_R m a_EQ) ?_, hrun, hended, _, _, rfl, ?_, ⟨_, rfl⟩, hW, hsame.mono (by decide) (by decide)⟩
  · show Steps p.tables e below (s₁.setTop (mkF m 0 #[.val (.ref a_EQ)] [])) _
    refine XS.aloadN X0.here hx rfl (hb hby d2_0) rfl rfl ?_
    show Steps p.tables e below (s₁.setTop (mkF m 1 #[.val (.ref a_EQ)] [(.ref a_EQ)])) _
    refine st1.trans ?_
    show Steps p.tables e below (T1.setTop (mkF m 4 #[.val (.ref a_EQ)] [(.int 0)])) _
    refine XS.tswIn X1.here hx rfl (pc0 := 4) (pc' := 62) (o := 58) rfl (hb hby d2_4) rfl (by decide) (by decide) (by decide) (by decide) ?_
    show Steps p.tables e below (T1.setTop (mkF m 62 #[.val (.ref a_EQ)] [])) _
    refine st2 _ ?_
    refine XS.goto X2.here hx rfl (pc0 := 65) (pc' := 107) rfl (hb hby d2_65) (by decide) (by decide) ?_
    show Steps p.tables e below (T2.setTop (mkF m 107 #[.val (.ref a_EQ)] [(.ref a_NOT_EQ)])) _
    jvm_step X2.here [X2.here.top, hx, (hb hby d2_107), X2.method', Bd.returns, Value.isRef, FieldType.isReference]
    first | (intro acts; rw [hr _ acts rfl rfl rfl]) | rw [hr _ _ rfl rfl rfl]
    exact Steps.refl _
  · show QP (some (.ref a_NOT_EQ)) h0 n0 _ T2.heap _
    rw [e2]
    exact ⟨rfl, N1, rfl⟩
theorem pd_2 : parseMethodDescriptor "()Lcom/example/floe/floe/Expression$Operation;" = some ⟨[], some (.object "com/example/floe/floe/Expression$Operation")⟩ := by decide +kernel
theorem tw_10 {a0 : Array Value} {Z : State} (hw : ∀ d ∈ tables_1, d.before a0 Z = true) : (Jvm.Cond.selects "com/example/floe/floe/Expression$Operation" ({ cls := "com/example/floe/floe/Expression$Operation", name := "negate", desc := "()Lcom/example/floe/floe/Expression$Operation;" } : Jvm.MethodName) ({ cls := "com/example/floe/floe/Expression$Operation", name := "negate", desc := "()Lcom/example/floe/floe/Expression$Operation;" } : Jvm.MethodName)).before a0 Z = true := hw _ (List.mem_of_getElem? (i := 10) rfl)
theorem tw_8 {a0 : Array Value} {Z : State} (hw : ∀ d ∈ tables_1, d.before a0 Z = true) : (Jvm.Cond.declares ({ cls := "com/example/floe/floe/Expression$Operation", name := "negate", desc := "()Lcom/example/floe/floe/Expression$Operation;" } : Jvm.MethodName)).before a0 Z = true := hw _ (List.mem_of_getElem? (i := 8) rfl)
theorem tw_9 {a0 : Array Value} {Z : State} (hw : ∀ d ∈ tables_1, d.before a0 Z = true) : (Jvm.Cond.instanceMethod ({ cls := "com/example/floe/floe/Expression$Operation", name := "negate", desc := "()Lcom/example/floe/floe/Expression$Operation;" } : Jvm.MethodName)).before a0 Z = true := hw _ (List.mem_of_getElem? (i := 9) rfl)
theorem tw_23 {a0 : Array Value} {Z : State} (hw : ∀ d ∈ tables_1, d.before a0 Z = true) : (Jvm.Cond.methodLink "com/example/floe/floe/OperationNegatePinLaw" (44 : Nat) ({ cls := "com/example/floe/floe/Expression$Operation", name := "compares", desc := "()Z" } : Jvm.MethodName)).before a0 Z = true := hw _ (List.mem_of_getElem? (i := 23) rfl)
theorem tw_27 {a0 : Array Value} {Z : State} (hw : ∀ d ∈ tables_1, d.before a0 Z = true) : (Jvm.Cond.code ({ cls := "com/example/floe/floe/Expression$Operation", name := "compares", desc := "()Z" } : Jvm.MethodName) prog_13_method_5_code (1 : Nat) (Option.some Jvm.ClassFile.FieldType.boolean)).before a0 Z = true := hw _ (List.mem_of_getElem? (i := 27) rfl)
theorem d4_0 : decode prog_13_method_5_code 0 = .ok (.aload_n 0, 1) := by decide +kernel
theorem d4_1 : decode prog_13_method_5_code 1 = .ok (.getstatic 22, 3) := by decide +kernel
theorem tw_28 {a0 : Array Value} {Z : State} (hw : ∀ d ∈ tables_1, d.before a0 Z = true) : (Jvm.Cond.fieldLink "com/example/floe/floe/Expression$Operation" (22 : Nat) "com/example/floe/floe/Expression$Operation" "IS_NULL" "Lcom/example/floe/floe/Expression$Operation;").before a0 Z = true := hw _ (List.mem_of_getElem? (i := 28) rfl)
theorem d4_4 : decode prog_13_method_5_code 4 = .ok (.if_acmp .eq 14, 3) := by decide +kernel
theorem d4_7 : decode prog_13_method_5_code 7 = .ok (.aload_n 0, 1) := by decide +kernel
theorem d4_8 : decode prog_13_method_5_code 8 = .ok (.getstatic 25, 3) := by decide +kernel
theorem tw_30 {a0 : Array Value} {Z : State} (hw : ∀ d ∈ tables_1, d.before a0 Z = true) : (Jvm.Cond.fieldLink "com/example/floe/floe/Expression$Operation" (25 : Nat) "com/example/floe/floe/Expression$Operation" "NOT_NULL" "Lcom/example/floe/floe/Expression$Operation;").before a0 Z = true := hw _ (List.mem_of_getElem? (i := 30) rfl)
theorem d4_11 : decode prog_13_method_5_code 11 = .ok (.if_acmp .eq 7, 3) := by decide +kernel
theorem d4_14 : decode prog_13_method_5_code 14 = .ok (.iconst 1, 1) := by decide +kernel
theorem d4_15 : decode prog_13_method_5_code 15 = .ok (.goto 4, 3) := by decide +kernel
theorem d4_19 : decode prog_13_method_5_code 19 = .ok (.ireturn, 1) := by decide +kernel
abbrev M_4 : MethodName := ⟨"com/example/floe/floe/Expression$Operation", "compares", "()Z"⟩
theorem ef4_R (m : MethodId) (x0 : Addr) : entryFrame m #[(.ref x0)] 1 = mkF m 0 #[.val (.ref x0)] [] := by first | (simp [entryFrame, mkF, argsToLocals, Value.category]; done) | rfl
set_option maxRecDepth 65536 in
set_option maxHeartbeats 40000000 in
theorem rm4_34 (l : Launch) (Z : State) (a0 : Array Value) (hw : ∀ d ∈ tables_1, d.before a0 Z = true) (ws : List Jvm.Cond) (a_EQ : Addr) (a_IS_NULL : Addr) (a_NOT_NULL : Addr) (h0 : Heap) (n0 : Nat) (Z0 : n0 ≤ h0.size) (f1 : S_2 Z h0 (.ref a_IS_NULL)) (f2 : a_EQ ≠ a_IS_NULL) (f3 : S_3 Z h0 (.ref a_NOT_NULL)) (f4 : a_EQ ≠ a_NOT_NULL) :
    MetFree l M_4 (head1 (Jvm.Cond.code M_4 prog_13_method_5_code 1 (some .boolean) :: ws) R_0_0_0_0) (fun a U => a = #[(.ref a_EQ)] ∧ Z.Warmed39 U.vm ∧ U.heap = h0) (fun _ _ _ _ _ => True) (fun _ U o U' => ∃ v L, o = .returned v ∧ QP (some (.int 1)) h0 n0 v U'.heap L ∧ FrameEnd U o U' L R_0_0_0_0.cells R_0_0_0_0.slots) := by
  refine MetFree.of_bodySF (plainFor_of_name pn_com_example_floe_floe_Expression_Operation) hisR ?_
  intro p e s m args below meth c s₁ Bd hml0 hP hK
  obtain ⟨rfl, hZ, hh⟩ := hP
  have hx := Bd.exec
  have hby := Bd.bytes
  have hml : c.maxLocals = 1 := hml0
  have hown : s.vm.findClass "com/example/floe/floe/Expression$Operation" = some m.cls := findClass_of_methodNamed Bd.named
  have hnm := (name_of_methodNamed Bd.named Bd.method).1
  have X0 : Stand p l e R_0_0_0_0 s m #[(.ref a_EQ)] below meth c s₁ [] 0 0 := Stand.of_body Bd
  have e0 : s₁.heap = h0 := by rw [← hh, Bd.state]; rfl
  have N0 := Fr.nil n0
  obtain ⟨T1, X1, e1, st1⟩ := getS2 X0 hx hZ hown (host := "") (Or.inl (tw_28 hw)) Via.refl e0 f1 (g := (mkF m 1 #[.val (.ref a_EQ)] [(.ref a_EQ)])) rfl (hb hby d4_1)
  obtain ⟨T2, X2, e2, st2⟩ := getS2 X1 hx hZ hown (host := "") (Or.inl (tw_30 hw)) Via.refl e1 f3 (g := (mkF m 8 #[.val (.ref a_EQ)] [(.ref a_EQ)])) rfl (hb hby d4_8)
  obtain ⟨fs, hr, hrun, hended, hW, hsame⟩ := X2.leave (v := (some (.int 1))) (fun h => by rw [Bd.returns] at h; cases h)
  refine ⟨_, _, castTop (ef4_R m a_EQ) ?_, hrun, hended, _, _, rfl, ?_, ⟨_, rfl⟩, hW, hsame.mono (by decide) (by decide)⟩
  · show Steps p.tables e below (s₁.setTop (mkF m 0 #[.val (.ref a_EQ)] [])) _
    refine XS.aloadN X0.here hx rfl (hb hby d4_0) rfl rfl ?_
    show Steps p.tables e below (s₁.setTop (mkF m 1 #[.val (.ref a_EQ)] [(.ref a_EQ)])) _
    refine st1 _ ?_
    show Steps p.tables e below (T1.setTop (mkF m 4 #[.val (.ref a_EQ)] [(.ref a_IS_NULL), (.ref a_EQ)])) _
    refine Jvm.RoadKit.acmp (g := (mkF m 4 #[.val (.ref a_EQ)] [(.ref a_IS_NULL), (.ref a_EQ)])) X1 hx rfl rfl rfl (pc0 := 4) (pc' := 7) (same := false) rfl (hb hby d4_4) rfl (decide_eq_false fun q => f2 (Value.ref.inj q)) (by decide) (by decide) ?_
    refine XS.aloadN X1.here hx rfl (hb hby d4_7) rfl rfl ?_
    show Steps p.tables e below (T1.setTop (mkF m 8 #[.val (.ref a_EQ)] [(.ref a_EQ)])) _
    refine st2 _ ?_
    show Steps p.tables e below (T2.setTop (mkF m 11 #[.val (.ref a_EQ)] [(.ref a_NOT_NULL), (.ref a_EQ)])) _
    refine Jvm.RoadKit.acmp (g := (mkF m 11 #[.val (.ref a_EQ)] [(.ref a_NOT_NULL), (.ref a_EQ)])) X2 hx rfl rfl rfl (pc0 := 11) (pc' := 14) (same := false) rfl (hb hby d4_11) rfl (decide_eq_false fun q => f4 (Value.ref.inj q)) (by decide) (by decide) ?_
    refine XS.iconst X2.here hx rfl (hb hby d4_14) ?_
    refine XS.goto X2.here hx rfl (pc0 := 15) (pc' := 19) rfl (hb hby d4_15) (by decide) (by decide) ?_
    show Steps p.tables e below (T2.setTop (mkF m 19 #[.val (.ref a_EQ)] [(.int 1)])) _
    exact retN X2 hx (t := .boolean) Bd.returns (by simp) (hb hby d4_19) hr
  · show QP (some (.int 1)) h0 n0 _ T2.heap _
    rw [e2]
    exact ⟨rfl, N0, rfl⟩
theorem pd_3 : parseMethodDescriptor "()Z" = some ⟨[], some .boolean⟩ := by decide +kernel
theorem tw_26 {a0 : Array Value} {Z : State} (hw : ∀ d ∈ tables_1, d.before a0 Z = true) : (Jvm.Cond.selects "com/example/floe/floe/Expression$Operation" ({ cls := "com/example/floe/floe/Expression$Operation", name := "compares", desc := "()Z" } : Jvm.MethodName) ({ cls := "com/example/floe/floe/Expression$Operation", name := "compares", desc := "()Z" } : Jvm.MethodName)).before a0 Z = true := hw _ (List.mem_of_getElem? (i := 26) rfl)
theorem tw_24 {a0 : Array Value} {Z : State} (hw : ∀ d ∈ tables_1, d.before a0 Z = true) : (Jvm.Cond.declares ({ cls := "com/example/floe/floe/Expression$Operation", name := "compares", desc := "()Z" } : Jvm.MethodName)).before a0 Z = true := hw _ (List.mem_of_getElem? (i := 24) rfl)
theorem tw_25 {a0 : Array Value} {Z : State} (hw : ∀ d ∈ tables_1, d.before a0 Z = true) : (Jvm.Cond.instanceMethod ({ cls := "com/example/floe/floe/Expression$Operation", name := "compares", desc := "()Z" } : Jvm.MethodName)).before a0 Z = true := hw _ (List.mem_of_getElem? (i := 25) rfl)
set_option maxRecDepth 65536 in
set_option maxHeartbeats 40000000 in
theorem rm4_35 (l : Launch) (Z : State) (a0 : Array Value) (hw : ∀ d ∈ tables_1, d.before a0 Z = true) (ws : List Jvm.Cond) (a_NOT_EQ : Addr) (a_IS_NULL : Addr) (a_NOT_NULL : Addr) (h0 : Heap) (n0 : Nat) (Z0 : n0 ≤ h0.size) (f1 : S_2 Z h0 (.ref a_IS_NULL)) (f2 : a_IS_NULL ≠ a_NOT_EQ) (f3 : S_3 Z h0 (.ref a_NOT_NULL)) (f4 : a_NOT_NULL ≠ a_NOT_EQ) :
    MetFree l M_4 (head1 (Jvm.Cond.code M_4 prog_13_method_5_code 1 (some .boolean) :: ws) R_0_0_0_0) (fun a U => a = #[(.ref a_NOT_EQ)] ∧ Z.Warmed39 U.vm ∧ U.heap = h0) (fun _ _ _ _ _ => True) (fun _ U o U' => ∃ v L, o = .returned v ∧ QP (some (.int 1)) h0 n0 v U'.heap L ∧ FrameEnd U o U' L R_0_0_0_0.cells R_0_0_0_0.slots) := by
  refine MetFree.of_bodySF (plainFor_of_name pn_com_example_floe_floe_Expression_Operation) hisR ?_
  intro p e s m args below meth c s₁ Bd hml0 hP hK
  obtain ⟨rfl, hZ, hh⟩ := hP
  have hx := Bd.exec
  have hby := Bd.bytes
  have hml : c.maxLocals = 1 := hml0
  have hown : s.vm.findClass "com/example/floe/floe/Expression$Operation" = some m.cls := findClass_of_methodNamed Bd.named
  have hnm := (name_of_methodNamed Bd.named Bd.method).1
  have X0 : Stand p l e R_0_0_0_0 s m #[(.ref a_NOT_EQ)] below meth c s₁ [] 0 0 := Stand.of_body Bd
  have e0 : s₁.heap = h0 := by rw [← hh, Bd.state]; rfl
  have N0 := Fr.nil n0
  obtain ⟨T1, X1, e1, st1⟩ := getS2 X0 hx hZ hown (host := "") (Or.inl (tw_28 hw)) Via.refl e0 f1 (g := (mkF m 1 #[.val (.ref a_NOT_EQ)] [(.ref a_NOT_EQ)])) rfl (hb hby d4_1)
  obtain ⟨T2, X2, e2, st2⟩ := getS2 X1 hx hZ hown (host := "") (Or.inl (tw_30 hw)) Via.refl e1 f3 (g := (mkF m 8 #[.val (.ref a_NOT_EQ)] [(.ref a_NOT_EQ)])) rfl (hb hby d4_8)
  obtain ⟨fs, hr, hrun, hended, hW, hsame⟩ := X2.leave (v := (some (.int 1))) (fun h => by rw [Bd.returns] at h; cases h)
  refine ⟨_, _, castTop (ef4_R m a_NOT_EQ) ?_, hrun, hended, _, _, rfl, ?_, ⟨_, rfl⟩, hW, hsame.mono (by decide) (by decide)⟩
  · show Steps p.tables e below (s₁.setTop (mkF m 0 #[.val (.ref a_NOT_EQ)] [])) _
    refine XS.aloadN X0.here hx rfl (hb hby d4_0) rfl rfl ?_
    show Steps p.tables e below (s₁.setTop (mkF m 1 #[.val (.ref a_NOT_EQ)] [(.ref a_NOT_EQ)])) _
    refine st1 _ ?_
    show Steps p.tables e below (T1.setTop (mkF m 4 #[.val (.ref a_NOT_EQ)] [(.ref a_IS_NULL), (.ref a_NOT_EQ)])) _
    refine Jvm.RoadKit.acmp (g := (mkF m 4 #[.val (.ref a_NOT_EQ)] [(.ref a_IS_NULL), (.ref a_NOT_EQ)])) X1 hx rfl rfl rfl (pc0 := 4) (pc' := 7) (same := false) rfl (hb hby d4_4) rfl (decide_eq_false fun q => (Ne.symm f2) (Value.ref.inj q)) (by decide) (by decide) ?_
    refine XS.aloadN X1.here hx rfl (hb hby d4_7) rfl rfl ?_
    show Steps p.tables e below (T1.setTop (mkF m 8 #[.val (.ref a_NOT_EQ)] [(.ref a_NOT_EQ)])) _
    refine st2 _ ?_
    show Steps p.tables e below (T2.setTop (mkF m 11 #[.val (.ref a_NOT_EQ)] [(.ref a_NOT_NULL), (.ref a_NOT_EQ)])) _
    refine Jvm.RoadKit.acmp (g := (mkF m 11 #[.val (.ref a_NOT_EQ)] [(.ref a_NOT_NULL), (.ref a_NOT_EQ)])) X2 hx rfl rfl rfl (pc0 := 11) (pc' := 14) (same := false) rfl (hb hby d4_11) rfl (decide_eq_false fun q => (Ne.symm f4) (Value.ref.inj q)) (by decide) (by decide) ?_
    refine XS.iconst X2.here hx rfl (hb hby d4_14) ?_
    refine XS.goto X2.here hx rfl (pc0 := 15) (pc' := 19) rfl (hb hby d4_15) (by decide) (by decide) ?_
    show Steps p.tables e below (T2.setTop (mkF m 19 #[.val (.ref a_NOT_EQ)] [(.int 1)])) _
    exact retN X2 hx (t := .boolean) Bd.returns (by simp) (hb hby d4_19) hr
  · show QP (some (.int 1)) h0 n0 _ T2.heap _
    rw [e2]
    exact ⟨rfl, N0, rfl⟩
theorem tw_32 {a0 : Array Value} {Z : State} (hw : ∀ d ∈ tables_1, d.before a0 Z = true) : (Jvm.Cond.methodLink "com/example/floe/floe/OperationNegatePinLaw" (48 : Nat) ({ cls := "com/example/floe/floe/OperationNegatePinLaw", name := "holds", desc := "(Lcom/example/floe/floe/Expression$Operation;ZJJ)Z" } : Jvm.MethodName)).before a0 Z = true := hw _ (List.mem_of_getElem? (i := 32) rfl)
theorem tw_34 {a0 : Array Value} {Z : State} (hw : ∀ d ∈ tables_1, d.before a0 Z = true) : (Jvm.Cond.code ({ cls := "com/example/floe/floe/OperationNegatePinLaw", name := "holds", desc := "(Lcom/example/floe/floe/Expression$Operation;ZJJ)Z" } : Jvm.MethodName) method_3_code (6 : Nat) (Option.some Jvm.ClassFile.FieldType.boolean)).before a0 Z = true := hw _ (List.mem_of_getElem? (i := 34) rfl)
theorem d5_0 : decode method_3_code 0 = .ok (.aload_n 0, 1) := by decide +kernel
theorem d5_1 : decode method_3_code 1 = .ok (.getstatic 28, 3) := by decide +kernel
theorem tw_35 {a0 : Array Value} {Z : State} (hw : ∀ d ∈ tables_1, d.before a0 Z = true) : (Jvm.Cond.fieldLink "com/example/floe/floe/OperationNegatePinLaw" (28 : Nat) "com/example/floe/floe/Expression$Operation" "IS_NULL" "Lcom/example/floe/floe/Expression$Operation;").before a0 Z = true := hw _ (List.mem_of_getElem? (i := 35) rfl)
theorem d5_4 : decode method_3_code 4 = .ok (.if_acmp .ne 5, 3) := by decide +kernel
theorem d5_9 : decode method_3_code 9 = .ok (.aload_n 0, 1) := by decide +kernel
theorem d5_10 : decode method_3_code 10 = .ok (.getstatic 31, 3) := by decide +kernel
theorem tw_36 {a0 : Array Value} {Z : State} (hw : ∀ d ∈ tables_1, d.before a0 Z = true) : (Jvm.Cond.fieldLink "com/example/floe/floe/OperationNegatePinLaw" (31 : Nat) "com/example/floe/floe/Expression$Operation" "NOT_NULL" "Lcom/example/floe/floe/Expression$Operation;").before a0 Z = true := hw _ (List.mem_of_getElem? (i := 36) rfl)
theorem d5_13 : decode method_3_code 13 = .ok (.if_acmp .ne 13, 3) := by decide +kernel
theorem d5_26 : decode method_3_code 26 = .ok (.aload_n 0, 1) := by decide +kernel
theorem d5_27 : decode method_3_code 27 = .ok (.getstatic 7, 3) := by decide +kernel
theorem d5_30 : decode method_3_code 30 = .ok (.if_acmp .ne 16, 3) := by decide +kernel
theorem d5_46 : decode method_3_code 46 = .ok (.aload_n 0, 1) := by decide +kernel
theorem d5_47 : decode method_3_code 47 = .ok (.getstatic 13, 3) := by decide +kernel
theorem tw_37 {a0 : Array Value} {Z : State} (hw : ∀ d ∈ tables_1, d.before a0 Z = true) : (Jvm.Cond.fieldLink "com/example/floe/floe/OperationNegatePinLaw" (13 : Nat) "com/example/floe/floe/Expression$Operation" "NOT_EQ" "Lcom/example/floe/floe/Expression$Operation;").before a0 Z = true := hw _ (List.mem_of_getElem? (i := 37) rfl)
theorem d5_50 : decode method_3_code 50 = .ok (.if_acmp .ne 16, 3) := by decide +kernel
theorem d5_53 : decode method_3_code 53 = .ok (.lload_n 2, 1) := by decide +kernel
theorem d5_54 : decode method_3_code 54 = .ok (.lload 4, 2) := by decide +kernel
theorem d5_56 : decode method_3_code 56 = .ok (.lcmp, 1) := by decide +kernel
theorem d5_57 : decode method_3_code 57 = .ok (.ifCond .eq 7, 3) := by decide +kernel
theorem d5_60 : decode method_3_code 60 = .ok (.iconst 1, 1) := by decide +kernel
theorem d5_61 : decode method_3_code 61 = .ok (.goto 4, 3) := by decide +kernel
theorem d5_65 : decode method_3_code 65 = .ok (.ireturn, 1) := by decide +kernel
abbrev M_5 : MethodName := ⟨"com/example/floe/floe/OperationNegatePinLaw", "holds", "(Lcom/example/floe/floe/Expression$Operation;ZJJ)Z"⟩
theorem ef5_RIJJ (m : MethodId) (x0 : Addr) (x1 : Int32) (x2 : Int64) (x3 : Int64) : entryFrame m #[(.ref x0), (.int x1), (.long x2), (.long x3)] 6 = mkF m 0 #[.val (.ref x0), .val (.int x1), .val (.long x2), .second, .val (.long x3), .second] [] := by first | (simp [entryFrame, mkF, argsToLocals, Value.category]; done) | rfl
set_option maxRecDepth 65536 in
set_option maxHeartbeats 40000000 in
theorem rm5_36 (l : Launch) (Z : State) (a0 : Array Value) (hw : ∀ d ∈ tables_1, d.before a0 Z = true) (ws : List Jvm.Cond) (a_NOT_EQ : Addr) (p2 : Int64) (p3 : Int64) (a_IS_NULL : Addr) (a_NOT_NULL : Addr) (a_EQ : Addr) (h0 : Heap) (n0 : Nat) (Z0 : n0 ≤ h0.size) (f1 : S_2 Z h0 (.ref a_IS_NULL)) (f2 : a_NOT_EQ ≠ a_IS_NULL) (f3 : S_3 Z h0 (.ref a_NOT_NULL)) (f4 : a_NOT_EQ ≠ a_NOT_NULL) (f5 : S_0 Z h0 (.ref a_EQ)) (f6 : a_EQ ≠ a_NOT_EQ) (f7 : S_1 Z h0 (.ref a_NOT_EQ)) (f8 : (lcmpW p2 p3) = (-1 : Int32)) :
    MetFree l M_5 (head1 (Jvm.Cond.code M_5 method_3_code 6 (some .boolean) :: ws) R_0_0_0_0) (fun a U => a = #[(.ref a_NOT_EQ), (.int 0), (.long p2), (.long p3)] ∧ Z.Warmed39 U.vm ∧ U.heap = h0) (fun _ _ _ _ _ => True) (fun _ U o U' => ∃ v L, o = .returned v ∧ QP (some (.int 1)) h0 n0 v U'.heap L ∧ FrameEnd U o U' L R_0_0_0_0.cells R_0_0_0_0.slots) := by
  refine MetFree.of_bodySF (plainFor_of_name pn_com_example_floe_floe_OperationNegatePinLaw) hisR ?_
  intro p e s m args below meth c s₁ Bd hml0 hP hK
  obtain ⟨rfl, hZ, hh⟩ := hP
  have hx := Bd.exec
  have hby := Bd.bytes
  have hml : c.maxLocals = 6 := hml0
  have hown : s.vm.findClass "com/example/floe/floe/OperationNegatePinLaw" = some m.cls := findClass_of_methodNamed Bd.named
  have hnm := (name_of_methodNamed Bd.named Bd.method).1
  have X0 : Stand p l e R_0_0_0_0 s m #[(.ref a_NOT_EQ), (.int 0), (.long p2), (.long p3)] below meth c s₁ [] 0 0 := Stand.of_body Bd
  have e0 : s₁.heap = h0 := by rw [← hh, Bd.state]; rfl
  have N0 := Fr.nil n0
  obtain ⟨T1, X1, e1, st1⟩ := getS2 X0 hx hZ hown (host := "") (Or.inl (tw_35 hw)) Via.refl e0 f1 (g := (mkF m 1 #[.val (.ref a_NOT_EQ), .val (.int 0), .val (.long p2), .second, .val (.long p3), .second] [(.ref a_NOT_EQ)])) rfl (hb hby d5_1)
  obtain ⟨T2, X2, e2, st2⟩ := getS2 X1 hx hZ hown (host := "") (Or.inl (tw_36 hw)) Via.refl e1 f3 (g := (mkF m 10 #[.val (.ref a_NOT_EQ), .val (.int 0), .val (.long p2), .second, .val (.long p3), .second] [(.ref a_NOT_EQ)])) rfl (hb hby d5_10)
  obtain ⟨T3, X3, e3, st3⟩ := getS2 X2 hx hZ hown (host := "") (Or.inl (tw_4 hw)) Via.refl e2 f5 (g := (mkF m 27 #[.val (.ref a_NOT_EQ), .val (.int 0), .val (.long p2), .second, .val (.long p3), .second] [(.ref a_NOT_EQ)])) rfl (hb hby d5_27)
  obtain ⟨T4, X4, e4, st4⟩ := getS2 X3 hx hZ hown (host := "") (Or.inl (tw_37 hw)) Via.refl e3 f7 (g := (mkF m 47 #[.val (.ref a_NOT_EQ), .val (.int 0), .val (.long p2), .second, .val (.long p3), .second] [(.ref a_NOT_EQ)])) rfl (hb hby d5_47)
  obtain ⟨fs, hr, hrun, hended, hW, hsame⟩ := X4.leave (v := (some (.int 1))) (fun h => by rw [Bd.returns] at h; cases h)
  refine ⟨_, _, castTop (ef5_RIJJ m a_NOT_EQ (0 : Int32) p2 p3) ?_, hrun, hended, _, _, rfl, ?_, ⟨_, rfl⟩, hW, hsame.mono (by decide) (by decide)⟩
  · show Steps p.tables e below (s₁.setTop (mkF m 0 #[.val (.ref a_NOT_EQ), .val (.int 0), .val (.long p2), .second, .val (.long p3), .second] [])) _
    refine XS.aloadN X0.here hx rfl (hb hby d5_0) rfl rfl ?_
    show Steps p.tables e below (s₁.setTop (mkF m 1 #[.val (.ref a_NOT_EQ), .val (.int 0), .val (.long p2), .second, .val (.long p3), .second] [(.ref a_NOT_EQ)])) _
    refine st1 _ ?_
    show Steps p.tables e below (T1.setTop (mkF m 4 #[.val (.ref a_NOT_EQ), .val (.int 0), .val (.long p2), .second, .val (.long p3), .second] [(.ref a_IS_NULL), (.ref a_NOT_EQ)])) _
    refine Jvm.RoadKit.acmp (g := (mkF m 4 #[.val (.ref a_NOT_EQ), .val (.int 0), .val (.long p2), .second, .val (.long p3), .second] [(.ref a_IS_NULL), (.ref a_NOT_EQ)])) X1 hx rfl rfl rfl (pc0 := 4) (pc' := 9) (same := false) rfl (hb hby d5_4) rfl (decide_eq_false fun q => f2 (Value.ref.inj q)) (by decide) (by decide) ?_
    refine XS.aloadN X1.here hx rfl (hb hby d5_9) rfl rfl ?_
    show Steps p.tables e below (T1.setTop (mkF m 10 #[.val (.ref a_NOT_EQ), .val (.int 0), .val (.long p2), .second, .val (.long p3), .second] [(.ref a_NOT_EQ)])) _
    refine st2 _ ?_
    show Steps p.tables e below (T2.setTop (mkF m 13 #[.val (.ref a_NOT_EQ), .val (.int 0), .val (.long p2), .second, .val (.long p3), .second] [(.ref a_NOT_NULL), (.ref a_NOT_EQ)])) _
    refine Jvm.RoadKit.acmp (g := (mkF m 13 #[.val (.ref a_NOT_EQ), .val (.int 0), .val (.long p2), .second, .val (.long p3), .second] [(.ref a_NOT_NULL), (.ref a_NOT_EQ)])) X2 hx rfl rfl rfl (pc0 := 13) (pc' := 26) (same := false) rfl (hb hby d5_13) rfl (decide_eq_false fun q => f4 (Value.ref.inj q)) (by decide) (by decide) ?_
    refine XS.aloadN X2.here hx rfl (hb hby d5_26) rfl rfl ?_
    show Steps p.tables e below (T2.setTop (mkF m 27 #[.val (.ref a_NOT_EQ), .val (.int 0), .val (.long p2), .second, .val (.long p3), .second] [(.ref a_NOT_EQ)])) _
    refine st3 _ ?_
    show Steps p.tables e below (T3.setTop (mkF m 30 #[.val (.ref a_NOT_EQ), .val (.int 0), .val (.long p2), .second, .val (.long p3), .second] [(.ref a_EQ), (.ref a_NOT_EQ)])) _
    refine Jvm.RoadKit.acmp (g := (mkF m 30 #[.val (.ref a_NOT_EQ), .val (.int 0), .val (.long p2), .second, .val (.long p3), .second] [(.ref a_EQ), (.ref a_NOT_EQ)])) X3 hx rfl rfl rfl (pc0 := 30) (pc' := 46) (same := false) rfl (hb hby d5_30) rfl (decide_eq_false fun q => (Ne.symm f6) (Value.ref.inj q)) (by decide) (by decide) ?_
    refine XS.aloadN X3.here hx rfl (hb hby d5_46) rfl rfl ?_
    show Steps p.tables e below (T3.setTop (mkF m 47 #[.val (.ref a_NOT_EQ), .val (.int 0), .val (.long p2), .second, .val (.long p3), .second] [(.ref a_NOT_EQ)])) _
    refine st4 _ ?_
    show Steps p.tables e below (T4.setTop (mkF m 50 #[.val (.ref a_NOT_EQ), .val (.int 0), .val (.long p2), .second, .val (.long p3), .second] [(.ref a_NOT_EQ), (.ref a_NOT_EQ)])) _
    refine Jvm.RoadKit.acmp (g := (mkF m 50 #[.val (.ref a_NOT_EQ), .val (.int 0), .val (.long p2), .second, .val (.long p3), .second] [(.ref a_NOT_EQ), (.ref a_NOT_EQ)])) X4 hx rfl rfl rfl (pc0 := 50) (pc' := 53) (same := true) rfl (hb hby d5_50) rfl (decide_eq_true rfl) (by decide) (by decide) ?_
    refine XS.lloadN X4.here hx rfl (hb hby d5_53) rfl ?_
    refine XS.lload X4.here hx rfl (hb hby d5_54) rfl ?_
    show Steps p.tables e below (T4.setTop (mkF m 56 #[.val (.ref a_NOT_EQ), .val (.int 0), .val (.long p2), .second, .val (.long p3), .second] [(.long p3), (.long p2)])) _
    refine XS.lcmp X4.here hx rfl (hb hby d5_56) rfl ?_
    show Steps p.tables e below (T4.setTop (mkF m 57 #[.val (.ref a_NOT_EQ), .val (.int 0), .val (.long p2), .second, .val (.long p3), .second] [(.int (lcmpW p2 p3))])) _
    rw [f8]
    refine XS.ifNo X4.here hx rfl (hb hby d5_57) rfl (by decide) ?_
    refine XS.iconst X4.here hx rfl (hb hby d5_60) ?_
    refine XS.goto X4.here hx rfl (pc0 := 61) (pc' := 65) rfl (hb hby d5_61) (by decide) (by decide) ?_
    show Steps p.tables e below (T4.setTop (mkF m 65 #[.val (.ref a_NOT_EQ), .val (.int 0), .val (.long p2), .second, .val (.long p3), .second] [(.int 1)])) _
    exact retN X4 hx (t := .boolean) Bd.returns (by simp) (hb hby d5_65) hr
  · show QP (some (.int 1)) h0 n0 _ T4.heap _
    rw [e4]
    exact ⟨rfl, N0, rfl⟩
theorem pd_4 : parseMethodDescriptor "(Lcom/example/floe/floe/Expression$Operation;ZJJ)Z" = some ⟨[(.object "com/example/floe/floe/Expression$Operation"), .boolean, .long, .long], some .boolean⟩ := by decide +kernel
theorem tw_33 {a0 : Array Value} {Z : State} (hw : ∀ d ∈ tables_1, d.before a0 Z = true) : (Jvm.Cond.static ({ cls := "com/example/floe/floe/OperationNegatePinLaw", name := "holds", desc := "(Lcom/example/floe/floe/Expression$Operation;ZJJ)Z" } : Jvm.MethodName)).before a0 Z = true := hw _ (List.mem_of_getElem? (i := 33) rfl)
theorem d5_33 : decode method_3_code 33 = .ok (.lload_n 2, 1) := by decide +kernel
theorem d5_34 : decode method_3_code 34 = .ok (.lload 4, 2) := by decide +kernel
theorem d5_36 : decode method_3_code 36 = .ok (.lcmp, 1) := by decide +kernel
theorem d5_37 : decode method_3_code 37 = .ok (.ifCond .ne 7, 3) := by decide +kernel
theorem d5_44 : decode method_3_code 44 = .ok (.iconst 0, 1) := by decide +kernel
theorem d5_45 : decode method_3_code 45 = .ok (.ireturn, 1) := by decide +kernel
set_option maxRecDepth 65536 in
set_option maxHeartbeats 40000000 in
theorem rm5_37 (l : Launch) (Z : State) (a0 : Array Value) (hw : ∀ d ∈ tables_1, d.before a0 Z = true) (ws : List Jvm.Cond) (a_EQ : Addr) (p2 : Int64) (p3 : Int64) (a_IS_NULL : Addr) (a_NOT_NULL : Addr) (h0 : Heap) (n0 : Nat) (Z0 : n0 ≤ h0.size) (f1 : S_2 Z h0 (.ref a_IS_NULL)) (f2 : a_EQ ≠ a_IS_NULL) (f3 : S_3 Z h0 (.ref a_NOT_NULL)) (f4 : a_EQ ≠ a_NOT_NULL) (f5 : S_0 Z h0 (.ref a_EQ)) (f6 : (lcmpW p2 p3) = (-1 : Int32)) :
    MetFree l M_5 (head1 (Jvm.Cond.code M_5 method_3_code 6 (some .boolean) :: ws) R_0_0_0_0) (fun a U => a = #[(.ref a_EQ), (.int 0), (.long p2), (.long p3)] ∧ Z.Warmed39 U.vm ∧ U.heap = h0) (fun _ _ _ _ _ => True) (fun _ U o U' => ∃ v L, o = .returned v ∧ QP (some (.int 0)) h0 n0 v U'.heap L ∧ FrameEnd U o U' L R_0_0_0_0.cells R_0_0_0_0.slots) := by
  refine MetFree.of_bodySF (plainFor_of_name pn_com_example_floe_floe_OperationNegatePinLaw) hisR ?_
  intro p e s m args below meth c s₁ Bd hml0 hP hK
  obtain ⟨rfl, hZ, hh⟩ := hP
  have hx := Bd.exec
  have hby := Bd.bytes
  have hml : c.maxLocals = 6 := hml0
  have hown : s.vm.findClass "com/example/floe/floe/OperationNegatePinLaw" = some m.cls := findClass_of_methodNamed Bd.named
  have hnm := (name_of_methodNamed Bd.named Bd.method).1
  have X0 : Stand p l e R_0_0_0_0 s m #[(.ref a_EQ), (.int 0), (.long p2), (.long p3)] below meth c s₁ [] 0 0 := Stand.of_body Bd
  have e0 : s₁.heap = h0 := by rw [← hh, Bd.state]; rfl
  have N0 := Fr.nil n0
  obtain ⟨T1, X1, e1, st1⟩ := getS2 X0 hx hZ hown (host := "") (Or.inl (tw_35 hw)) Via.refl e0 f1 (g := (mkF m 1 #[.val (.ref a_EQ), .val (.int 0), .val (.long p2), .second, .val (.long p3), .second] [(.ref a_EQ)])) rfl (hb hby d5_1)
  obtain ⟨T2, X2, e2, st2⟩ := getS2 X1 hx hZ hown (host := "") (Or.inl (tw_36 hw)) Via.refl e1 f3 (g := (mkF m 10 #[.val (.ref a_EQ), .val (.int 0), .val (.long p2), .second, .val (.long p3), .second] [(.ref a_EQ)])) rfl (hb hby d5_10)
  obtain ⟨T3, X3, e3, st3⟩ := getS2 X2 hx hZ hown (host := "") (Or.inl (tw_4 hw)) Via.refl e2 f5 (g := (mkF m 27 #[.val (.ref a_EQ), .val (.int 0), .val (.long p2), .second, .val (.long p3), .second] [(.ref a_EQ)])) rfl (hb hby d5_27)
  obtain ⟨fs, hr, hrun, hended, hW, hsame⟩ := X3.leave (v := (some (.int 0))) (fun h => by rw [Bd.returns] at h; cases h)
  refine ⟨_, _, castTop (ef5_RIJJ m a_EQ (0 : Int32) p2 p3) ?_, hrun, hended, _, _, rfl, ?_, ⟨_, rfl⟩, hW, hsame.mono (by decide) (by decide)⟩
  · show Steps p.tables e below (s₁.setTop (mkF m 0 #[.val (.ref a_EQ), .val (.int 0), .val (.long p2), .second, .val (.long p3), .second] [])) _
    refine XS.aloadN X0.here hx rfl (hb hby d5_0) rfl rfl ?_
    show Steps p.tables e below (s₁.setTop (mkF m 1 #[.val (.ref a_EQ), .val (.int 0), .val (.long p2), .second, .val (.long p3), .second] [(.ref a_EQ)])) _
    refine st1 _ ?_
    show Steps p.tables e below (T1.setTop (mkF m 4 #[.val (.ref a_EQ), .val (.int 0), .val (.long p2), .second, .val (.long p3), .second] [(.ref a_IS_NULL), (.ref a_EQ)])) _
    refine Jvm.RoadKit.acmp (g := (mkF m 4 #[.val (.ref a_EQ), .val (.int 0), .val (.long p2), .second, .val (.long p3), .second] [(.ref a_IS_NULL), (.ref a_EQ)])) X1 hx rfl rfl rfl (pc0 := 4) (pc' := 9) (same := false) rfl (hb hby d5_4) rfl (decide_eq_false fun q => f2 (Value.ref.inj q)) (by decide) (by decide) ?_
    refine XS.aloadN X1.here hx rfl (hb hby d5_9) rfl rfl ?_
    show Steps p.tables e below (T1.setTop (mkF m 10 #[.val (.ref a_EQ), .val (.int 0), .val (.long p2), .second, .val (.long p3), .second] [(.ref a_EQ)])) _
    refine st2 _ ?_
    show Steps p.tables e below (T2.setTop (mkF m 13 #[.val (.ref a_EQ), .val (.int 0), .val (.long p2), .second, .val (.long p3), .second] [(.ref a_NOT_NULL), (.ref a_EQ)])) _
    refine Jvm.RoadKit.acmp (g := (mkF m 13 #[.val (.ref a_EQ), .val (.int 0), .val (.long p2), .second, .val (.long p3), .second] [(.ref a_NOT_NULL), (.ref a_EQ)])) X2 hx rfl rfl rfl (pc0 := 13) (pc' := 26) (same := false) rfl (hb hby d5_13) rfl (decide_eq_false fun q => f4 (Value.ref.inj q)) (by decide) (by decide) ?_
    refine XS.aloadN X2.here hx rfl (hb hby d5_26) rfl rfl ?_
    show Steps p.tables e below (T2.setTop (mkF m 27 #[.val (.ref a_EQ), .val (.int 0), .val (.long p2), .second, .val (.long p3), .second] [(.ref a_EQ)])) _
    refine st3 _ ?_
    show Steps p.tables e below (T3.setTop (mkF m 30 #[.val (.ref a_EQ), .val (.int 0), .val (.long p2), .second, .val (.long p3), .second] [(.ref a_EQ), (.ref a_EQ)])) _
    refine Jvm.RoadKit.acmp (g := (mkF m 30 #[.val (.ref a_EQ), .val (.int 0), .val (.long p2), .second, .val (.long p3), .second] [(.ref a_EQ), (.ref a_EQ)])) X3 hx rfl rfl rfl (pc0 := 30) (pc' := 33) (same := true) rfl (hb hby d5_30) rfl (decide_eq_true rfl) (by decide) (by decide) ?_
    refine XS.lloadN X3.here hx rfl (hb hby d5_33) rfl ?_
    refine XS.lload X3.here hx rfl (hb hby d5_34) rfl ?_
    show Steps p.tables e below (T3.setTop (mkF m 36 #[.val (.ref a_EQ), .val (.int 0), .val (.long p2), .second, .val (.long p3), .second] [(.long p3), (.long p2)])) _
    refine XS.lcmp X3.here hx rfl (hb hby d5_36) rfl ?_
    show Steps p.tables e below (T3.setTop (mkF m 37 #[.val (.ref a_EQ), .val (.int 0), .val (.long p2), .second, .val (.long p3), .second] [(.int (lcmpW p2 p3))])) _
    rw [f6]
    refine XS.ifYes X3.here hx rfl (pc0 := 37) (pc' := 44) rfl (hb hby d5_37) rfl (by decide) (by decide) (by decide) ?_
    refine XS.iconst X3.here hx rfl (hb hby d5_44) ?_
    show Steps p.tables e below (T3.setTop (mkF m 45 #[.val (.ref a_EQ), .val (.int 0), .val (.long p2), .second, .val (.long p3), .second] [(.int 0)])) _
    exact retN X3 hx (t := .boolean) Bd.returns (by simp) (hb hby d5_45) hr
  · show QP (some (.int 0)) h0 n0 _ T3.heap _
    rw [e3]
    exact ⟨rfl, N0, rfl⟩
theorem ef0_IIJJ (m : MethodId) (x0 : Int32) (x1 : Int32) (x2 : Int64) (x3 : Int64) : entryFrame m #[(.int x0), (.int x1), (.long x2), (.long x3)] maxLocals = mkF m 0 #[.val (.int x0), .val (.int x1), .val (.long x2), .second, .val (.long x3), .second, .unset, .unset, .unset, .unset] [] := by first | (simp [entryFrame, mkF, argsToLocals, Value.category, maxLocals]; done) | rfl
set_option maxRecDepth 65536 in
set_option maxHeartbeats 40000000 in
theorem rm0_38 (l : Launch) (Z : State) (a0 : Array Value) (hw : ∀ d ∈ tables_1, d.before a0 Z = true) (ws : List Jvm.Cond) (p0 : Int32) (p1 : Int32) (p2 : Int64) (p3 : Int64) (a_EQ : Addr) (a_NOT_EQ : Addr) (a_IS_NULL : Addr) (a_NOT_NULL : Addr) (h0 : Heap) (n0 : Nat) (Z0 : n0 ≤ h0.size) (f1 : (p0 &&& (7 : Int32)) = (0 : Int32)) (f2 : S_0 Z h0 (.ref a_EQ)) (f3 : F_0 Z h0 a_EQ (.int 0)) (f4 : E_0 Z h0 a_EQ) (f5 : S_1 Z h0 (.ref a_NOT_EQ)) (f6 : S_2 Z h0 (.ref a_IS_NULL)) (f7 : a_EQ ≠ a_IS_NULL) (f8 : S_3 Z h0 (.ref a_NOT_NULL)) (f9 : a_EQ ≠ a_NOT_NULL) (f10 : a_IS_NULL ≠ a_NOT_EQ) (f11 : a_NOT_NULL ≠ a_NOT_EQ) (f12 : E_0 Z h0 a_NOT_EQ) (f13 : a_EQ ≠ a_NOT_EQ) (f14 : (lcmpW p2 p3) = (-1 : Int32)) :
    MetFree l x (head1 (Jvm.Cond.code x code maxLocals ret :: ws) room_1) (fun a U => a = #[(.int p0), (.int p1), (.long p2), (.long p3)] ∧ Z.Warmed39 U.vm ∧ U.heap = h0) (fun _ _ _ _ _ => True) (fun _ U o U' => ∃ v L, o = .returned v ∧ QT n0 v U'.heap L ∧ FrameEnd U o U' L room_1.cells room_1.slots) := by
  refine MetFree.of_bodySF (plainFor_of_name pn_com_example_floe_floe_OperationNegatePinLaw) hisR ?_
  intro p e s m args below meth c s₁ Bd hml0 hP hK
  obtain ⟨rfl, hZ, hh⟩ := hP
  have hx := Bd.exec
  have hby := Bd.bytes
  have hml : c.maxLocals = 10 := hml0
  have hown : s.vm.findClass "com/example/floe/floe/OperationNegatePinLaw" = some m.cls := findClass_of_methodNamed Bd.named
  have hnm := (name_of_methodNamed Bd.named Bd.method).1
  have X0 : Stand p l e room_1 s m #[(.int p0), (.int p1), (.long p2), (.long p3)] below meth c s₁ [] 0 0 := Stand.of_body Bd
  have e0 : s₁.heap = h0 := by rw [← hh, Bd.state]; rfl
  have N0 := Fr.nil n0
  -- pc 1: com/example/floe/floe/OperationNegatePinLaw.pick
  obtain ⟨_, _, ⟨T1, L1, k1, n1⟩, -, X1, ⟨Lc1, hQ1, l1, y1, z1⟩, st1⟩ := Jvm.LawKit.callS X0 hx (y := M_0) hown (mvT hZ (tw_0 hw)) (mvT hZ (tw_1 hw)) (mvT hZ (tw_2 hw)) (mvT hZ (tw_3 hw)) (by decide) (backOf (W := 0) (rm1_31 l Z a0 hw [] p0 a_EQ h0 n0 Z0 f1 f2) hZ (tw_3 hw) (tw_2 hw) (by decide) (by decide)) (g := (mkF m 1 #[.val (.int p0), .val (.int p1), .val (.long p2), .second, .val (.long p3), .second, .unset, .unset, .unset, .unset] [(.int p0)])) rfl (by rw [hml]; rfl) (argsL := [(.int p0)]) (rest := []) (lenOf pd_0 rfl) rfl (by show 2 * 0 + _ ≤ _; exact Nat.le_of_eq rfl) (hb hby at_1) (fun _ _ => ⟨rfl, e0, (by decide : 0 + 0 ≤ _), (by decide : 0 + 0 ≤ _)⟩)
  dsimp only [Pt.U, Pt.locs, Pt.cells, Pt.slots] at X1 l1 y1 z1 st1 hQ1
  subst l1 y1 z1
  obtain ⟨rfl, Nq1, e1⟩ := hQ1
  have N1 := Fr.app N0 Nq1
  -- pc 8: com/example/floe/floe/Expression$Operation.negate
  obtain ⟨cq2, kq2, q2a, q2b, q2c⟩ := isOf hZ e1 f4
  obtain ⟨_, _, ⟨T2, L2, k2, n2⟩, -, X2, ⟨Lc2, hQ2, l2, y2, z2⟩, st2⟩ := X1.virtualBack hx (y := M_3) (z := M_3) hown (mvT hZ (tw_7 hw)) (mvT hZ (tw_8 hw)) (notFace_of_selects (args := #[]) (mvT hZ (tw_10 hw))) (mvT hZ (tw_10 hw)) (mvT hZ (tw_9 hw)) (by decide) (backOf (W := 0) (rm2_33 l Z a0 hw [] a_EQ a_NOT_EQ h0 n0 Z0 f3 f4 f5) hZ (tw_11 hw) (tw_5 hw) (by decide) (by decide)) q2a q2c (g := (mkF m 8 #[.val (.int p0), .val (.int p1), .val (.long p2), .second, .val (.long p3), .second, .val (.ref a_EQ), .unset, .unset, .unset] [(.ref a_EQ)])) rfl (by rw [hml]; rfl) (Steps.refl _) (argsL := []) (rest := []) (lenOf pd_2 rfl) rfl (by show 2 * 0 + _ ≤ _; exact Nat.le_of_eq rfl) (hb hby at_8) (fun _ _ => ⟨rfl, e1, (by decide : 0 + 0 ≤ _), (by decide : 0 + 0 ≤ _)⟩)
  dsimp only [Pt.U, Pt.locs, Pt.cells, Pt.slots] at X2 l2 y2 z2 st2 hQ2
  subst l2 y2 z2
  obtain ⟨rfl, Nq2, e2⟩ := hQ2
  have N2 := Fr.app N1 Nq2
  -- pc 22: com/example/floe/floe/Expression$Operation.compares
  obtain ⟨cq3, kq3, q3a, q3b, q3c⟩ := isOf hZ e2 f4
  obtain ⟨_, _, ⟨T3, L3, k3, n3⟩, -, X3, ⟨Lc3, hQ3, l3, y3, z3⟩, st3⟩ := X2.virtualBack hx (y := M_4) (z := M_4) hown (mvT hZ (tw_23 hw)) (mvT hZ (tw_24 hw)) (notFace_of_selects (args := #[]) (mvT hZ (tw_26 hw))) (mvT hZ (tw_26 hw)) (mvT hZ (tw_25 hw)) (by decide) (backOf (W := 0) (rm4_34 l Z a0 hw [] a_EQ a_IS_NULL a_NOT_NULL h0 n0 Z0 f6 f7 f8 f9) hZ (tw_27 hw) (tw_5 hw) (by decide) (by decide)) q3a q3c (g := (mkF m 22 #[.val (.int p0), .val (.int p1), .val (.long p2), .second, .val (.long p3), .second, .val (.ref a_EQ), .val (.ref a_NOT_EQ), .unset, .unset] [(.ref a_EQ)])) rfl (by rw [hml]; rfl) (Steps.refl _) (argsL := []) (rest := []) (lenOf pd_3 rfl) rfl (by show 2 * 0 + _ ≤ _; exact Nat.le_of_eq rfl) (hb hby at_22) (fun _ _ => ⟨rfl, e2, (by decide : 0 + 0 ≤ _), (by decide : 0 + 0 ≤ _)⟩)
  dsimp only [Pt.U, Pt.locs, Pt.cells, Pt.slots] at X3 l3 y3 z3 st3 hQ3
  subst l3 y3 z3
  obtain ⟨rfl, Nq3, e3⟩ := hQ3
  have N3 := Fr.app N2 Nq3
  -- pc 51: com/example/floe/floe/Expression$Operation.compares
  obtain ⟨cq4, kq4, q4a, q4b, q4c⟩ := isOf hZ e3 f12
  obtain ⟨_, _, ⟨T4, L4, k4, n4⟩, -, X4, ⟨Lc4, hQ4, l4, y4, z4⟩, st4⟩ := X3.virtualBack hx (y := M_4) (z := M_4) hown (mvT hZ (tw_23 hw)) (mvT hZ (tw_24 hw)) (notFace_of_selects (args := #[]) (mvT hZ (tw_26 hw))) (mvT hZ (tw_26 hw)) (mvT hZ (tw_25 hw)) (by decide) (backOf (W := 0) (rm4_35 l Z a0 hw [] a_NOT_EQ a_IS_NULL a_NOT_NULL h0 n0 Z0 f6 f10 f8 f11) hZ (tw_27 hw) (tw_5 hw) (by decide) (by decide)) q4a q4c (g := (mkF m 51 #[.val (.int p0), .val (.int p1), .val (.long p2), .second, .val (.long p3), .second, .val (.ref a_EQ), .val (.ref a_NOT_EQ), .val (.int 1), .val (.int 0)] [(.ref a_NOT_EQ)])) rfl (by rw [hml]; rfl) (Steps.refl _) (argsL := []) (rest := []) (lenOf pd_3 rfl) rfl (by show 2 * 0 + _ ≤ _; exact Nat.le_of_eq rfl) (hb hby at_51) (fun _ _ => ⟨rfl, e3, (by decide : 0 + 0 ≤ _), (by decide : 0 + 0 ≤ _)⟩)
  dsimp only [Pt.U, Pt.locs, Pt.cells, Pt.slots] at X4 l4 y4 z4 st4 hQ4
  subst l4 y4 z4
  obtain ⟨rfl, Nq4, e4⟩ := hQ4
  have N4 := Fr.app N3 Nq4
  -- pc 68: com/example/floe/floe/OperationNegatePinLaw.holds
  obtain ⟨_, _, ⟨T5, L5, k5, n5⟩, -, X5, ⟨Lc5, hQ5, l5, y5, z5⟩, st5⟩ := Jvm.LawKit.callS X4 hx (y := M_5) hown (mvT hZ (tw_32 hw)) (mvT hZ (tw_33 hw)) (mvT hZ (tw_2 hw)) (mvT hZ (tw_34 hw)) (by decide) (backOf (W := 0) (rm5_36 l Z a0 hw [] a_NOT_EQ p2 p3 a_IS_NULL a_NOT_NULL a_EQ h0 n0 Z0 f6 (Ne.symm f10) f8 (Ne.symm f11) f2 f13 f5 f14) hZ (tw_34 hw) (tw_2 hw) (by decide) (by decide)) (g := (mkF m 68 #[.val (.int p0), .val (.int p1), .val (.long p2), .second, .val (.long p3), .second, .val (.ref a_EQ), .val (.ref a_NOT_EQ), .val (.int 1), .val (.int 0)] [(.long p3), (.long p2), (.int 0), (.ref a_NOT_EQ)])) rfl (by rw [hml]; rfl) (argsL := [(.ref a_NOT_EQ), (.int 0), (.long p2), (.long p3)]) (rest := []) (lenOf pd_4 rfl) rfl (by show 2 * 0 + _ ≤ _; exact Nat.le_of_eq rfl) (hb hby at_68) (fun _ _ => ⟨rfl, e4, (by decide : 0 + 0 ≤ _), (by decide : 0 + 0 ≤ _)⟩)
  dsimp only [Pt.U, Pt.locs, Pt.cells, Pt.slots] at X5 l5 y5 z5 st5 hQ5
  subst l5 y5 z5
  obtain ⟨rfl, Nq5, e5⟩ := hQ5
  have N5 := Fr.app N4 Nq5
  -- pc 78: com/example/floe/floe/OperationNegatePinLaw.holds
  obtain ⟨_, _, ⟨T6, L6, k6, n6⟩, -, X6, ⟨Lc6, hQ6, l6, y6, z6⟩, st6⟩ := Jvm.LawKit.callS X5 hx (y := M_5) hown (mvT hZ (tw_32 hw)) (mvT hZ (tw_33 hw)) (mvT hZ (tw_2 hw)) (mvT hZ (tw_34 hw)) (by decide) (backOf (W := 1) (rm5_37 l Z a0 hw [] a_EQ p2 p3 a_IS_NULL a_NOT_NULL h0 n0 Z0 f6 f7 f8 f9 f2 f14) hZ (tw_34 hw) (tw_2 hw) (by decide) (by decide)) (g := (mkF m 78 #[.val (.int p0), .val (.int p1), .val (.long p2), .second, .val (.long p3), .second, .val (.ref a_EQ), .val (.ref a_NOT_EQ), .val (.int 1), .val (.int 0)] [(.long p3), (.long p2), (.int 0), (.ref a_EQ), (.int 1)])) rfl (by rw [hml]; rfl) (argsL := [(.ref a_EQ), (.int 0), (.long p2), (.long p3)]) (rest := [(.int 1)]) (lenOf pd_4 rfl) rfl (by show 2 * 0 + _ ≤ _; exact Nat.le_of_eq rfl) (hb hby at_78) (fun _ _ => ⟨rfl, e5, (by decide : 0 + 0 ≤ _), (by decide : 0 + 0 ≤ _)⟩)
  dsimp only [Pt.U, Pt.locs, Pt.cells, Pt.slots] at X6 l6 y6 z6 st6 hQ6
  subst l6 y6 z6
  obtain ⟨rfl, Nq6, e6⟩ := hQ6
  have N6 := Fr.app N5 Nq6
  obtain ⟨fs, hr, hrun, hended, hW, hsame⟩ := X6.leave (v := (some (.int 1))) (fun h => by rw [Bd.returns] at h; cases h)
  refine ⟨_, _, castTop (ef0_IIJJ m p0 p1 p2 p3) ?_, hrun, hended, _, _, rfl, ?_, ⟨_, rfl⟩, hW, hsame.mono (by decide) (by decide)⟩
  · show Steps p.tables e below (s₁.setTop (mkF m 0 #[.val (.int p0), .val (.int p1), .val (.long p2), .second, .val (.long p3), .second, .unset, .unset, .unset, .unset] [])) _
    refine XS.iloadN X0.here hx rfl (hb hby at_0) rfl ?_
    show Steps p.tables e below (s₁.setTop (mkF m 1 #[.val (.int p0), .val (.int p1), .val (.long p2), .second, .val (.long p3), .second, .unset, .unset, .unset, .unset] [(.int p0)])) _
    refine st1 _ ?_
    refine XS.astore X1.here hx rfl (hb hby at_4) rfl rfl (l' := #[.val (.int p0), .val (.int p1), .val (.long p2), .second, .val (.long p3), .second, .val (.ref a_EQ), .unset, .unset, .unset]) rfl ?_
    refine XS.aload X1.here hx rfl (hb hby at_6) rfl rfl ?_
    show Steps p.tables e below (T1.setTop (mkF m 8 #[.val (.int p0), .val (.int p1), .val (.long p2), .second, .val (.long p3), .second, .val (.ref a_EQ), .unset, .unset, .unset] [(.ref a_EQ)])) _
    refine st2.trans ?_
    refine XS.astore X2.here hx rfl (hb hby at_11) rfl rfl (l' := #[.val (.int p0), .val (.int p1), .val (.long p2), .second, .val (.long p3), .second, .val (.ref a_EQ), .val (.ref a_NOT_EQ), .unset, .unset]) rfl ?_
    refine XS.aload X2.here hx rfl (hb hby at_13) rfl rfl ?_
    refine XS.ifnonnullYes X2.here hx rfl (pc0 := 15) (pc' := 20) rfl (hb hby at_15) rfl (by decide) (by decide) ?_
    refine XS.aload X2.here hx rfl (hb hby at_20) rfl rfl ?_
    show Steps p.tables e below (T2.setTop (mkF m 22 #[.val (.int p0), .val (.int p1), .val (.long p2), .second, .val (.long p3), .second, .val (.ref a_EQ), .val (.ref a_NOT_EQ), .unset, .unset] [(.ref a_EQ)])) _
    refine st3.trans ?_
    refine XS.istore X3.here hx rfl (hb hby at_25) rfl (l' := #[.val (.int p0), .val (.int p1), .val (.long p2), .second, .val (.long p3), .second, .val (.ref a_EQ), .val (.ref a_NOT_EQ), .val (.int 1), .unset]) rfl ?_
    refine XS.iload X3.here hx rfl (hb hby at_27) rfl ?_
    refine XS.ifNo X3.here hx rfl (hb hby at_29) rfl (by decide) ?_
    refine XS.iconst X3.here hx rfl (hb hby at_32) ?_
    show Steps p.tables e below (T3.setTop (mkF m 33 #[.val (.int p0), .val (.int p1), .val (.long p2), .second, .val (.long p3), .second, .val (.ref a_EQ), .val (.ref a_NOT_EQ), .val (.int 1), .unset] [(.int 0)])) _
    refine XS.goto X3.here hx rfl (pc0 := 33) (pc' := 47) rfl (hb hby at_33) (by decide) (by decide) ?_
    refine XS.istore X3.here hx rfl (hb hby at_47) rfl (l' := #[.val (.int p0), .val (.int p1), .val (.long p2), .second, .val (.long p3), .second, .val (.ref a_EQ), .val (.ref a_NOT_EQ), .val (.int 1), .val (.int 0)]) rfl ?_
    refine XS.aload X3.here hx rfl (hb hby at_49) rfl rfl ?_
    show Steps p.tables e below (T3.setTop (mkF m 51 #[.val (.int p0), .val (.int p1), .val (.long p2), .second, .val (.long p3), .second, .val (.ref a_EQ), .val (.ref a_NOT_EQ), .val (.int 1), .val (.int 0)] [(.ref a_NOT_EQ)])) _
    refine st4.trans ?_
    refine XS.iload X4.here hx rfl (hb hby at_54) rfl ?_
    refine XS.icmpYes X4.here hx rfl (pc0 := 56) (pc' := 61) rfl (hb hby at_56) rfl (by decide) (by decide) (by decide) ?_
    refine XS.aload X4.here hx rfl (hb hby at_61) rfl rfl ?_
    refine XS.iload X4.here hx rfl (hb hby at_63) rfl ?_
    show Steps p.tables e below (T4.setTop (mkF m 65 #[.val (.int p0), .val (.int p1), .val (.long p2), .second, .val (.long p3), .second, .val (.ref a_EQ), .val (.ref a_NOT_EQ), .val (.int 1), .val (.int 0)] [(.int 0), (.ref a_NOT_EQ)])) _
    refine XS.lloadN X4.here hx rfl (hb hby at_65) rfl ?_
    refine XS.lload X4.here hx rfl (hb hby at_66) rfl ?_
    show Steps p.tables e below (T4.setTop (mkF m 68 #[.val (.int p0), .val (.int p1), .val (.long p2), .second, .val (.long p3), .second, .val (.ref a_EQ), .val (.ref a_NOT_EQ), .val (.int 1), .val (.int 0)] [(.long p3), (.long p2), (.int 0), (.ref a_NOT_EQ)])) _
    refine st5 _ ?_
    refine XS.aload X5.here hx rfl (hb hby at_71) rfl rfl ?_
    refine XS.iload X5.here hx rfl (hb hby at_73) rfl ?_
    refine XS.lloadN X5.here hx rfl (hb hby at_75) rfl ?_
    refine XS.lload X5.here hx rfl (hb hby at_76) rfl ?_
    show Steps p.tables e below (T5.setTop (mkF m 78 #[.val (.int p0), .val (.int p1), .val (.long p2), .second, .val (.long p3), .second, .val (.ref a_EQ), .val (.ref a_NOT_EQ), .val (.int 1), .val (.int 0)] [(.long p3), (.long p2), (.int 0), (.ref a_EQ), (.int 1)])) _
    refine st6 _ ?_
    refine XS.icmpNo X6.here hx rfl (hb hby at_81) rfl (by decide) ?_
    refine XS.iconst X6.here hx rfl (hb hby at_84) ?_
    refine XS.goto X6.here hx rfl (pc0 := 85) (pc' := 89) rfl (hb hby at_85) (by decide) (by decide) ?_
    show Steps p.tables e below (T6.setTop (mkF m 89 #[.val (.int p0), .val (.int p1), .val (.long p2), .second, .val (.long p3), .second, .val (.ref a_EQ), .val (.ref a_NOT_EQ), .val (.int 1), .val (.int 0)] [(.int 1)])) _
    exact retN X6 hx (t := .boolean) Bd.returns (by simp) (hb hby at_89) hr
  · show QT n0 _ T6.heap _
    rw [e6]
    exact ⟨rfl, N6⟩
theorem d5_64 : decode method_3_code 64 = .ok (.iconst 0, 1) := by decide +kernel
set_option maxRecDepth 65536 in
set_option maxHeartbeats 40000000 in
theorem rm5_39 (l : Launch) (Z : State) (a0 : Array Value) (hw : ∀ d ∈ tables_1, d.before a0 Z = true) (ws : List Jvm.Cond) (a_NOT_EQ : Addr) (p2 : Int64) (p3 : Int64) (a_IS_NULL : Addr) (a_NOT_NULL : Addr) (a_EQ : Addr) (h0 : Heap) (n0 : Nat) (Z0 : n0 ≤ h0.size) (f1 : S_2 Z h0 (.ref a_IS_NULL)) (f2 : a_NOT_EQ ≠ a_IS_NULL) (f3 : S_3 Z h0 (.ref a_NOT_NULL)) (f4 : a_NOT_EQ ≠ a_NOT_NULL) (f5 : S_0 Z h0 (.ref a_EQ)) (f6 : a_EQ ≠ a_NOT_EQ) (f7 : S_1 Z h0 (.ref a_NOT_EQ)) (f8 : (lcmpW p2 p3) = (0 : Int32)) :
    MetFree l M_5 (head1 (Jvm.Cond.code M_5 method_3_code 6 (some .boolean) :: ws) R_0_0_0_0) (fun a U => a = #[(.ref a_NOT_EQ), (.int 0), (.long p2), (.long p3)] ∧ Z.Warmed39 U.vm ∧ U.heap = h0) (fun _ _ _ _ _ => True) (fun _ U o U' => ∃ v L, o = .returned v ∧ QP (some (.int 0)) h0 n0 v U'.heap L ∧ FrameEnd U o U' L R_0_0_0_0.cells R_0_0_0_0.slots) := by
  refine MetFree.of_bodySF (plainFor_of_name pn_com_example_floe_floe_OperationNegatePinLaw) hisR ?_
  intro p e s m args below meth c s₁ Bd hml0 hP hK
  obtain ⟨rfl, hZ, hh⟩ := hP
  have hx := Bd.exec
  have hby := Bd.bytes
  have hml : c.maxLocals = 6 := hml0
  have hown : s.vm.findClass "com/example/floe/floe/OperationNegatePinLaw" = some m.cls := findClass_of_methodNamed Bd.named
  have hnm := (name_of_methodNamed Bd.named Bd.method).1
  have X0 : Stand p l e R_0_0_0_0 s m #[(.ref a_NOT_EQ), (.int 0), (.long p2), (.long p3)] below meth c s₁ [] 0 0 := Stand.of_body Bd
  have e0 : s₁.heap = h0 := by rw [← hh, Bd.state]; rfl
  have N0 := Fr.nil n0
  obtain ⟨T1, X1, e1, st1⟩ := getS2 X0 hx hZ hown (host := "") (Or.inl (tw_35 hw)) Via.refl e0 f1 (g := (mkF m 1 #[.val (.ref a_NOT_EQ), .val (.int 0), .val (.long p2), .second, .val (.long p3), .second] [(.ref a_NOT_EQ)])) rfl (hb hby d5_1)
  obtain ⟨T2, X2, e2, st2⟩ := getS2 X1 hx hZ hown (host := "") (Or.inl (tw_36 hw)) Via.refl e1 f3 (g := (mkF m 10 #[.val (.ref a_NOT_EQ), .val (.int 0), .val (.long p2), .second, .val (.long p3), .second] [(.ref a_NOT_EQ)])) rfl (hb hby d5_10)
  obtain ⟨T3, X3, e3, st3⟩ := getS2 X2 hx hZ hown (host := "") (Or.inl (tw_4 hw)) Via.refl e2 f5 (g := (mkF m 27 #[.val (.ref a_NOT_EQ), .val (.int 0), .val (.long p2), .second, .val (.long p3), .second] [(.ref a_NOT_EQ)])) rfl (hb hby d5_27)
  obtain ⟨T4, X4, e4, st4⟩ := getS2 X3 hx hZ hown (host := "") (Or.inl (tw_37 hw)) Via.refl e3 f7 (g := (mkF m 47 #[.val (.ref a_NOT_EQ), .val (.int 0), .val (.long p2), .second, .val (.long p3), .second] [(.ref a_NOT_EQ)])) rfl (hb hby d5_47)
  obtain ⟨fs, hr, hrun, hended, hW, hsame⟩ := X4.leave (v := (some (.int 0))) (fun h => by rw [Bd.returns] at h; cases h)
  refine ⟨_, _, castTop (ef5_RIJJ m a_NOT_EQ (0 : Int32) p2 p3) ?_, hrun, hended, _, _, rfl, ?_, ⟨_, rfl⟩, hW, hsame.mono (by decide) (by decide)⟩
  · show Steps p.tables e below (s₁.setTop (mkF m 0 #[.val (.ref a_NOT_EQ), .val (.int 0), .val (.long p2), .second, .val (.long p3), .second] [])) _
    refine XS.aloadN X0.here hx rfl (hb hby d5_0) rfl rfl ?_
    show Steps p.tables e below (s₁.setTop (mkF m 1 #[.val (.ref a_NOT_EQ), .val (.int 0), .val (.long p2), .second, .val (.long p3), .second] [(.ref a_NOT_EQ)])) _
    refine st1 _ ?_
    show Steps p.tables e below (T1.setTop (mkF m 4 #[.val (.ref a_NOT_EQ), .val (.int 0), .val (.long p2), .second, .val (.long p3), .second] [(.ref a_IS_NULL), (.ref a_NOT_EQ)])) _
    refine Jvm.RoadKit.acmp (g := (mkF m 4 #[.val (.ref a_NOT_EQ), .val (.int 0), .val (.long p2), .second, .val (.long p3), .second] [(.ref a_IS_NULL), (.ref a_NOT_EQ)])) X1 hx rfl rfl rfl (pc0 := 4) (pc' := 9) (same := false) rfl (hb hby d5_4) rfl (decide_eq_false fun q => f2 (Value.ref.inj q)) (by decide) (by decide) ?_
    refine XS.aloadN X1.here hx rfl (hb hby d5_9) rfl rfl ?_
    show Steps p.tables e below (T1.setTop (mkF m 10 #[.val (.ref a_NOT_EQ), .val (.int 0), .val (.long p2), .second, .val (.long p3), .second] [(.ref a_NOT_EQ)])) _
    refine st2 _ ?_
    show Steps p.tables e below (T2.setTop (mkF m 13 #[.val (.ref a_NOT_EQ), .val (.int 0), .val (.long p2), .second, .val (.long p3), .second] [(.ref a_NOT_NULL), (.ref a_NOT_EQ)])) _
    refine Jvm.RoadKit.acmp (g := (mkF m 13 #[.val (.ref a_NOT_EQ), .val (.int 0), .val (.long p2), .second, .val (.long p3), .second] [(.ref a_NOT_NULL), (.ref a_NOT_EQ)])) X2 hx rfl rfl rfl (pc0 := 13) (pc' := 26) (same := false) rfl (hb hby d5_13) rfl (decide_eq_false fun q => f4 (Value.ref.inj q)) (by decide) (by decide) ?_
    refine XS.aloadN X2.here hx rfl (hb hby d5_26) rfl rfl ?_
    show Steps p.tables e below (T2.setTop (mkF m 27 #[.val (.ref a_NOT_EQ), .val (.int 0), .val (.long p2), .second, .val (.long p3), .second] [(.ref a_NOT_EQ)])) _
    refine st3 _ ?_
    show Steps p.tables e below (T3.setTop (mkF m 30 #[.val (.ref a_NOT_EQ), .val (.int 0), .val (.long p2), .second, .val (.long p3), .second] [(.ref a_EQ), (.ref a_NOT_EQ)])) _
    refine Jvm.RoadKit.acmp (g := (mkF m 30 #[.val (.ref a_NOT_EQ), .val (.int 0), .val (.long p2), .second, .val (.long p3), .second] [(.ref a_EQ), (.ref a_NOT_EQ)])) X3 hx rfl rfl rfl (pc0 := 30) (pc' := 46) (same := false) rfl (hb hby d5_30) rfl (decide_eq_false fun q => (Ne.symm f6) (Value.ref.inj q)) (by decide) (by decide) ?_
    refine XS.aloadN X3.here hx rfl (hb hby d5_46) rfl rfl ?_
    show Steps p.tables e below (T3.setTop (mkF m 47 #[.val (.ref a_NOT_EQ), .val (.int 0), .val (.long p2), .second, .val (.long p3), .second] [(.ref a_NOT_EQ)])) _
    refine st4 _ ?_
    show Steps p.tables e below (T4.setTop (mkF m 50 #[.val (.ref a_NOT_EQ), .val (.int 0), .val (.long p2), .second, .val (.long p3), .second] [(.ref a_NOT_EQ), (.ref a_NOT_EQ)])) _
    refine Jvm.RoadKit.acmp (g := (mkF m 50 #[.val (.ref a_NOT_EQ), .val (.int 0), .val (.long p2), .second, .val (.long p3), .second] [(.ref a_NOT_EQ), (.ref a_NOT_EQ)])) X4 hx rfl rfl rfl (pc0 := 50) (pc' := 53) (same := true) rfl (hb hby d5_50) rfl (decide_eq_true rfl) (by decide) (by decide) ?_
    refine XS.lloadN X4.here hx rfl (hb hby d5_53) rfl ?_
    refine XS.lload X4.here hx rfl (hb hby d5_54) rfl ?_
    show Steps p.tables e below (T4.setTop (mkF m 56 #[.val (.ref a_NOT_EQ), .val (.int 0), .val (.long p2), .second, .val (.long p3), .second] [(.long p3), (.long p2)])) _
    refine XS.lcmp X4.here hx rfl (hb hby d5_56) rfl ?_
    show Steps p.tables e below (T4.setTop (mkF m 57 #[.val (.ref a_NOT_EQ), .val (.int 0), .val (.long p2), .second, .val (.long p3), .second] [(.int (lcmpW p2 p3))])) _
    rw [f8]
    refine XS.ifYes X4.here hx rfl (pc0 := 57) (pc' := 64) rfl (hb hby d5_57) rfl (by decide) (by decide) (by decide) ?_
    refine XS.iconst X4.here hx rfl (hb hby d5_64) ?_
    show Steps p.tables e below (T4.setTop (mkF m 65 #[.val (.ref a_NOT_EQ), .val (.int 0), .val (.long p2), .second, .val (.long p3), .second] [(.int 0)])) _
    exact retN X4 hx (t := .boolean) Bd.returns (by simp) (hb hby d5_65) hr
  · show QP (some (.int 0)) h0 n0 _ T4.heap _
    rw [e4]
    exact ⟨rfl, N0, rfl⟩
theorem d5_40 : decode method_3_code 40 = .ok (.iconst 1, 1) := by decide +kernel
theorem d5_41 : decode method_3_code 41 = .ok (.goto 4, 3) := by decide +kernel
set_option maxRecDepth 65536 in
set_option maxHeartbeats 40000000 in
theorem rm5_40 (l : Launch) (Z : State) (a0 : Array Value) (hw : ∀ d ∈ tables_1, d.before a0 Z = true) (ws : List Jvm.Cond) (a_EQ : Addr) (p2 : Int64) (p3 : Int64) (a_IS_NULL : Addr) (a_NOT_NULL : Addr) (h0 : Heap) (n0 : Nat) (Z0 : n0 ≤ h0.size) (f1 : S_2 Z h0 (.ref a_IS_NULL)) (f2 : a_EQ ≠ a_IS_NULL) (f3 : S_3 Z h0 (.ref a_NOT_NULL)) (f4 : a_EQ ≠ a_NOT_NULL) (f5 : S_0 Z h0 (.ref a_EQ)) (f6 : (lcmpW p2 p3) = (0 : Int32)) :
    MetFree l M_5 (head1 (Jvm.Cond.code M_5 method_3_code 6 (some .boolean) :: ws) R_0_0_0_0) (fun a U => a = #[(.ref a_EQ), (.int 0), (.long p2), (.long p3)] ∧ Z.Warmed39 U.vm ∧ U.heap = h0) (fun _ _ _ _ _ => True) (fun _ U o U' => ∃ v L, o = .returned v ∧ QP (some (.int 1)) h0 n0 v U'.heap L ∧ FrameEnd U o U' L R_0_0_0_0.cells R_0_0_0_0.slots) := by
  refine MetFree.of_bodySF (plainFor_of_name pn_com_example_floe_floe_OperationNegatePinLaw) hisR ?_
  intro p e s m args below meth c s₁ Bd hml0 hP hK
  obtain ⟨rfl, hZ, hh⟩ := hP
  have hx := Bd.exec
  have hby := Bd.bytes
  have hml : c.maxLocals = 6 := hml0
  have hown : s.vm.findClass "com/example/floe/floe/OperationNegatePinLaw" = some m.cls := findClass_of_methodNamed Bd.named
  have hnm := (name_of_methodNamed Bd.named Bd.method).1
  have X0 : Stand p l e R_0_0_0_0 s m #[(.ref a_EQ), (.int 0), (.long p2), (.long p3)] below meth c s₁ [] 0 0 := Stand.of_body Bd
  have e0 : s₁.heap = h0 := by rw [← hh, Bd.state]; rfl
  have N0 := Fr.nil n0
  obtain ⟨T1, X1, e1, st1⟩ := getS2 X0 hx hZ hown (host := "") (Or.inl (tw_35 hw)) Via.refl e0 f1 (g := (mkF m 1 #[.val (.ref a_EQ), .val (.int 0), .val (.long p2), .second, .val (.long p3), .second] [(.ref a_EQ)])) rfl (hb hby d5_1)
  obtain ⟨T2, X2, e2, st2⟩ := getS2 X1 hx hZ hown (host := "") (Or.inl (tw_36 hw)) Via.refl e1 f3 (g := (mkF m 10 #[.val (.ref a_EQ), .val (.int 0), .val (.long p2), .second, .val (.long p3), .second] [(.ref a_EQ)])) rfl (hb hby d5_10)
  obtain ⟨T3, X3, e3, st3⟩ := getS2 X2 hx hZ hown (host := "") (Or.inl (tw_4 hw)) Via.refl e2 f5 (g := (mkF m 27 #[.val (.ref a_EQ), .val (.int 0), .val (.long p2), .second, .val (.long p3), .second] [(.ref a_EQ)])) rfl (hb hby d5_27)
  obtain ⟨fs, hr, hrun, hended, hW, hsame⟩ := X3.leave (v := (some (.int 1))) (fun h => by rw [Bd.returns] at h; cases h)
  refine ⟨_, _, castTop (ef5_RIJJ m a_EQ (0 : Int32) p2 p3) ?_, hrun, hended, _, _, rfl, ?_, ⟨_, rfl⟩, hW, hsame.mono (by decide) (by decide)⟩
  · show Steps p.tables e below (s₁.setTop (mkF m 0 #[.val (.ref a_EQ), .val (.int 0), .val (.long p2), .second, .val (.long p3), .second] [])) _
    refine XS.aloadN X0.here hx rfl (hb hby d5_0) rfl rfl ?_
    show Steps p.tables e below (s₁.setTop (mkF m 1 #[.val (.ref a_EQ), .val (.int 0), .val (.long p2), .second, .val (.long p3), .second] [(.ref a_EQ)])) _
    refine st1 _ ?_
    show Steps p.tables e below (T1.setTop (mkF m 4 #[.val (.ref a_EQ), .val (.int 0), .val (.long p2), .second, .val (.long p3), .second] [(.ref a_IS_NULL), (.ref a_EQ)])) _
    refine Jvm.RoadKit.acmp (g := (mkF m 4 #[.val (.ref a_EQ), .val (.int 0), .val (.long p2), .second, .val (.long p3), .second] [(.ref a_IS_NULL), (.ref a_EQ)])) X1 hx rfl rfl rfl (pc0 := 4) (pc' := 9) (same := false) rfl (hb hby d5_4) rfl (decide_eq_false fun q => f2 (Value.ref.inj q)) (by decide) (by decide) ?_
    refine XS.aloadN X1.here hx rfl (hb hby d5_9) rfl rfl ?_
    show Steps p.tables e below (T1.setTop (mkF m 10 #[.val (.ref a_EQ), .val (.int 0), .val (.long p2), .second, .val (.long p3), .second] [(.ref a_EQ)])) _
    refine st2 _ ?_
    show Steps p.tables e below (T2.setTop (mkF m 13 #[.val (.ref a_EQ), .val (.int 0), .val (.long p2), .second, .val (.long p3), .second] [(.ref a_NOT_NULL), (.ref a_EQ)])) _
    refine Jvm.RoadKit.acmp (g := (mkF m 13 #[.val (.ref a_EQ), .val (.int 0), .val (.long p2), .second, .val (.long p3), .second] [(.ref a_NOT_NULL), (.ref a_EQ)])) X2 hx rfl rfl rfl (pc0 := 13) (pc' := 26) (same := false) rfl (hb hby d5_13) rfl (decide_eq_false fun q => f4 (Value.ref.inj q)) (by decide) (by decide) ?_
    refine XS.aloadN X2.here hx rfl (hb hby d5_26) rfl rfl ?_
    show Steps p.tables e below (T2.setTop (mkF m 27 #[.val (.ref a_EQ), .val (.int 0), .val (.long p2), .second, .val (.long p3), .second] [(.ref a_EQ)])) _
    refine st3 _ ?_
    show Steps p.tables e below (T3.setTop (mkF m 30 #[.val (.ref a_EQ), .val (.int 0), .val (.long p2), .second, .val (.long p3), .second] [(.ref a_EQ), (.ref a_EQ)])) _
    refine Jvm.RoadKit.acmp (g := (mkF m 30 #[.val (.ref a_EQ), .val (.int 0), .val (.long p2), .second, .val (.long p3), .second] [(.ref a_EQ), (.ref a_EQ)])) X3 hx rfl rfl rfl (pc0 := 30) (pc' := 33) (same := true) rfl (hb hby d5_30) rfl (decide_eq_true rfl) (by decide) (by decide) ?_
    refine XS.lloadN X3.here hx rfl (hb hby d5_33) rfl ?_
    refine XS.lload X3.here hx rfl (hb hby d5_34) rfl ?_
    show Steps p.tables e below (T3.setTop (mkF m 36 #[.val (.ref a_EQ), .val (.int 0), .val (.long p2), .second, .val (.long p3), .second] [(.long p3), (.long p2)])) _
    refine XS.lcmp X3.here hx rfl (hb hby d5_36) rfl ?_
    show Steps p.tables e below (T3.setTop (mkF m 37 #[.val (.ref a_EQ), .val (.int 0), .val (.long p2), .second, .val (.long p3), .second] [(.int (lcmpW p2 p3))])) _
    rw [f6]
    refine XS.ifNo X3.here hx rfl (hb hby d5_37) rfl (by decide) ?_
    refine XS.iconst X3.here hx rfl (hb hby d5_40) ?_
    refine XS.goto X3.here hx rfl (pc0 := 41) (pc' := 45) rfl (hb hby d5_41) (by decide) (by decide) ?_
    show Steps p.tables e below (T3.setTop (mkF m 45 #[.val (.ref a_EQ), .val (.int 0), .val (.long p2), .second, .val (.long p3), .second] [(.int 1)])) _
    exact retN X3 hx (t := .boolean) Bd.returns (by simp) (hb hby d5_45) hr
  · show QP (some (.int 1)) h0 n0 _ T3.heap _
    rw [e3]
    exact ⟨rfl, N0, rfl⟩
set_option maxRecDepth 65536 in
set_option maxHeartbeats 40000000 in
theorem rm0_41 (l : Launch) (Z : State) (a0 : Array Value) (hw : ∀ d ∈ tables_1, d.before a0 Z = true) (ws : List Jvm.Cond) (p0 : Int32) (p1 : Int32) (p2 : Int64) (p3 : Int64) (a_EQ : Addr) (a_NOT_EQ : Addr) (a_IS_NULL : Addr) (a_NOT_NULL : Addr) (h0 : Heap) (n0 : Nat) (Z0 : n0 ≤ h0.size) (f1 : (p0 &&& (7 : Int32)) = (0 : Int32)) (f2 : S_0 Z h0 (.ref a_EQ)) (f3 : F_0 Z h0 a_EQ (.int 0)) (f4 : E_0 Z h0 a_EQ) (f5 : S_1 Z h0 (.ref a_NOT_EQ)) (f6 : S_2 Z h0 (.ref a_IS_NULL)) (f7 : a_EQ ≠ a_IS_NULL) (f8 : S_3 Z h0 (.ref a_NOT_NULL)) (f9 : a_EQ ≠ a_NOT_NULL) (f10 : a_IS_NULL ≠ a_NOT_EQ) (f11 : a_NOT_NULL ≠ a_NOT_EQ) (f12 : E_0 Z h0 a_NOT_EQ) (f13 : a_EQ ≠ a_NOT_EQ) (f14 : (lcmpW p2 p3) = (0 : Int32)) :
    MetFree l x (head1 (Jvm.Cond.code x code maxLocals ret :: ws) room_1) (fun a U => a = #[(.int p0), (.int p1), (.long p2), (.long p3)] ∧ Z.Warmed39 U.vm ∧ U.heap = h0) (fun _ _ _ _ _ => True) (fun _ U o U' => ∃ v L, o = .returned v ∧ QT n0 v U'.heap L ∧ FrameEnd U o U' L room_1.cells room_1.slots) := by
  refine MetFree.of_bodySF (plainFor_of_name pn_com_example_floe_floe_OperationNegatePinLaw) hisR ?_
  intro p e s m args below meth c s₁ Bd hml0 hP hK
  obtain ⟨rfl, hZ, hh⟩ := hP
  have hx := Bd.exec
  have hby := Bd.bytes
  have hml : c.maxLocals = 10 := hml0
  have hown : s.vm.findClass "com/example/floe/floe/OperationNegatePinLaw" = some m.cls := findClass_of_methodNamed Bd.named
  have hnm := (name_of_methodNamed Bd.named Bd.method).1
  have X0 : Stand p l e room_1 s m #[(.int p0), (.int p1), (.long p2), (.long p3)] below meth c s₁ [] 0 0 := Stand.of_body Bd
  have e0 : s₁.heap = h0 := by rw [← hh, Bd.state]; rfl
  have N0 := Fr.nil n0
  -- pc 1: com/example/floe/floe/OperationNegatePinLaw.pick
  obtain ⟨_, _, ⟨T1, L1, k1, n1⟩, -, X1, ⟨Lc1, hQ1, l1, y1, z1⟩, st1⟩ := Jvm.LawKit.callS X0 hx (y := M_0) hown (mvT hZ (tw_0 hw)) (mvT hZ (tw_1 hw)) (mvT hZ (tw_2 hw)) (mvT hZ (tw_3 hw)) (by decide) (backOf (W := 0) (rm1_31 l Z a0 hw [] p0 a_EQ h0 n0 Z0 f1 f2) hZ (tw_3 hw) (tw_2 hw) (by decide) (by decide)) (g := (mkF m 1 #[.val (.int p0), .val (.int p1), .val (.long p2), .second, .val (.long p3), .second, .unset, .unset, .unset, .unset] [(.int p0)])) rfl (by rw [hml]; rfl) (argsL := [(.int p0)]) (rest := []) (lenOf pd_0 rfl) rfl (by show 2 * 0 + _ ≤ _; exact Nat.le_of_eq rfl) (hb hby at_1) (fun _ _ => ⟨rfl, e0, (by decide : 0 + 0 ≤ _), (by decide : 0 + 0 ≤ _)⟩)
  dsimp only [Pt.U, Pt.locs, Pt.cells, Pt.slots] at X1 l1 y1 z1 st1 hQ1
  subst l1 y1 z1
  obtain ⟨rfl, Nq1, e1⟩ := hQ1
  have N1 := Fr.app N0 Nq1
  -- pc 8: com/example/floe/floe/Expression$Operation.negate
  obtain ⟨cq2, kq2, q2a, q2b, q2c⟩ := isOf hZ e1 f4
  obtain ⟨_, _, ⟨T2, L2, k2, n2⟩, -, X2, ⟨Lc2, hQ2, l2, y2, z2⟩, st2⟩ := X1.virtualBack hx (y := M_3) (z := M_3) hown (mvT hZ (tw_7 hw)) (mvT hZ (tw_8 hw)) (notFace_of_selects (args := #[]) (mvT hZ (tw_10 hw))) (mvT hZ (tw_10 hw)) (mvT hZ (tw_9 hw)) (by decide) (backOf (W := 0) (rm2_33 l Z a0 hw [] a_EQ a_NOT_EQ h0 n0 Z0 f3 f4 f5) hZ (tw_11 hw) (tw_5 hw) (by decide) (by decide)) q2a q2c (g := (mkF m 8 #[.val (.int p0), .val (.int p1), .val (.long p2), .second, .val (.long p3), .second, .val (.ref a_EQ), .unset, .unset, .unset] [(.ref a_EQ)])) rfl (by rw [hml]; rfl) (Steps.refl _) (argsL := []) (rest := []) (lenOf pd_2 rfl) rfl (by show 2 * 0 + _ ≤ _; exact Nat.le_of_eq rfl) (hb hby at_8) (fun _ _ => ⟨rfl, e1, (by decide : 0 + 0 ≤ _), (by decide : 0 + 0 ≤ _)⟩)
  dsimp only [Pt.U, Pt.locs, Pt.cells, Pt.slots] at X2 l2 y2 z2 st2 hQ2
  subst l2 y2 z2
  obtain ⟨rfl, Nq2, e2⟩ := hQ2
  have N2 := Fr.app N1 Nq2
  -- pc 22: com/example/floe/floe/Expression$Operation.compares
  obtain ⟨cq3, kq3, q3a, q3b, q3c⟩ := isOf hZ e2 f4
  obtain ⟨_, _, ⟨T3, L3, k3, n3⟩, -, X3, ⟨Lc3, hQ3, l3, y3, z3⟩, st3⟩ := X2.virtualBack hx (y := M_4) (z := M_4) hown (mvT hZ (tw_23 hw)) (mvT hZ (tw_24 hw)) (notFace_of_selects (args := #[]) (mvT hZ (tw_26 hw))) (mvT hZ (tw_26 hw)) (mvT hZ (tw_25 hw)) (by decide) (backOf (W := 0) (rm4_34 l Z a0 hw [] a_EQ a_IS_NULL a_NOT_NULL h0 n0 Z0 f6 f7 f8 f9) hZ (tw_27 hw) (tw_5 hw) (by decide) (by decide)) q3a q3c (g := (mkF m 22 #[.val (.int p0), .val (.int p1), .val (.long p2), .second, .val (.long p3), .second, .val (.ref a_EQ), .val (.ref a_NOT_EQ), .unset, .unset] [(.ref a_EQ)])) rfl (by rw [hml]; rfl) (Steps.refl _) (argsL := []) (rest := []) (lenOf pd_3 rfl) rfl (by show 2 * 0 + _ ≤ _; exact Nat.le_of_eq rfl) (hb hby at_22) (fun _ _ => ⟨rfl, e2, (by decide : 0 + 0 ≤ _), (by decide : 0 + 0 ≤ _)⟩)
  dsimp only [Pt.U, Pt.locs, Pt.cells, Pt.slots] at X3 l3 y3 z3 st3 hQ3
  subst l3 y3 z3
  obtain ⟨rfl, Nq3, e3⟩ := hQ3
  have N3 := Fr.app N2 Nq3
  -- pc 51: com/example/floe/floe/Expression$Operation.compares
  obtain ⟨cq4, kq4, q4a, q4b, q4c⟩ := isOf hZ e3 f12
  obtain ⟨_, _, ⟨T4, L4, k4, n4⟩, -, X4, ⟨Lc4, hQ4, l4, y4, z4⟩, st4⟩ := X3.virtualBack hx (y := M_4) (z := M_4) hown (mvT hZ (tw_23 hw)) (mvT hZ (tw_24 hw)) (notFace_of_selects (args := #[]) (mvT hZ (tw_26 hw))) (mvT hZ (tw_26 hw)) (mvT hZ (tw_25 hw)) (by decide) (backOf (W := 0) (rm4_35 l Z a0 hw [] a_NOT_EQ a_IS_NULL a_NOT_NULL h0 n0 Z0 f6 f10 f8 f11) hZ (tw_27 hw) (tw_5 hw) (by decide) (by decide)) q4a q4c (g := (mkF m 51 #[.val (.int p0), .val (.int p1), .val (.long p2), .second, .val (.long p3), .second, .val (.ref a_EQ), .val (.ref a_NOT_EQ), .val (.int 1), .val (.int 0)] [(.ref a_NOT_EQ)])) rfl (by rw [hml]; rfl) (Steps.refl _) (argsL := []) (rest := []) (lenOf pd_3 rfl) rfl (by show 2 * 0 + _ ≤ _; exact Nat.le_of_eq rfl) (hb hby at_51) (fun _ _ => ⟨rfl, e3, (by decide : 0 + 0 ≤ _), (by decide : 0 + 0 ≤ _)⟩)
  dsimp only [Pt.U, Pt.locs, Pt.cells, Pt.slots] at X4 l4 y4 z4 st4 hQ4
  subst l4 y4 z4
  obtain ⟨rfl, Nq4, e4⟩ := hQ4
  have N4 := Fr.app N3 Nq4
  -- pc 68: com/example/floe/floe/OperationNegatePinLaw.holds
  obtain ⟨_, _, ⟨T5, L5, k5, n5⟩, -, X5, ⟨Lc5, hQ5, l5, y5, z5⟩, st5⟩ := Jvm.LawKit.callS X4 hx (y := M_5) hown (mvT hZ (tw_32 hw)) (mvT hZ (tw_33 hw)) (mvT hZ (tw_2 hw)) (mvT hZ (tw_34 hw)) (by decide) (backOf (W := 0) (rm5_39 l Z a0 hw [] a_NOT_EQ p2 p3 a_IS_NULL a_NOT_NULL a_EQ h0 n0 Z0 f6 (Ne.symm f10) f8 (Ne.symm f11) f2 f13 f5 f14) hZ (tw_34 hw) (tw_2 hw) (by decide) (by decide)) (g := (mkF m 68 #[.val (.int p0), .val (.int p1), .val (.long p2), .second, .val (.long p3), .second, .val (.ref a_EQ), .val (.ref a_NOT_EQ), .val (.int 1), .val (.int 0)] [(.long p3), (.long p2), (.int 0), (.ref a_NOT_EQ)])) rfl (by rw [hml]; rfl) (argsL := [(.ref a_NOT_EQ), (.int 0), (.long p2), (.long p3)]) (rest := []) (lenOf pd_4 rfl) rfl (by show 2 * 0 + _ ≤ _; exact Nat.le_of_eq rfl) (hb hby at_68) (fun _ _ => ⟨rfl, e4, (by decide : 0 + 0 ≤ _), (by decide : 0 + 0 ≤ _)⟩)
  dsimp only [Pt.U, Pt.locs, Pt.cells, Pt.slots] at X5 l5 y5 z5 st5 hQ5
  subst l5 y5 z5
  obtain ⟨rfl, Nq5, e5⟩ := hQ5
  have N5 := Fr.app N4 Nq5
  -- pc 78: com/example/floe/floe/OperationNegatePinLaw.holds
  obtain ⟨_, _, ⟨T6, L6, k6, n6⟩, -, X6, ⟨Lc6, hQ6, l6, y6, z6⟩, st6⟩ := Jvm.LawKit.callS X5 hx (y := M_5) hown (mvT hZ (tw_32 hw)) (mvT hZ (tw_33 hw)) (mvT hZ (tw_2 hw)) (mvT hZ (tw_34 hw)) (by decide) (backOf (W := 1) (rm5_40 l Z a0 hw [] a_EQ p2 p3 a_IS_NULL a_NOT_NULL h0 n0 Z0 f6 f7 f8 f9 f2 f14) hZ (tw_34 hw) (tw_2 hw) (by decide) (by decide)) (g := (mkF m 78 #[.val (.int p0), .val (.int p1), .val (.long p2), .second, .val (.long p3), .second, .val (.ref a_EQ), .val (.ref a_NOT_EQ), .val (.int 1), .val (.int 0)] [(.long p3), (.long p2), (.int 0), (.ref a_EQ), (.int 0)])) rfl (by rw [hml]; rfl) (argsL := [(.ref a_EQ), (.int 0), (.long p2), (.long p3)]) (rest := [(.int 0)]) (lenOf pd_4 rfl) rfl (by show 2 * 0 + _ ≤ _; exact Nat.le_of_eq rfl) (hb hby at_78) (fun _ _ => ⟨rfl, e5, (by decide : 0 + 0 ≤ _), (by decide : 0 + 0 ≤ _)⟩)
  dsimp only [Pt.U, Pt.locs, Pt.cells, Pt.slots] at X6 l6 y6 z6 st6 hQ6
  subst l6 y6 z6
  obtain ⟨rfl, Nq6, e6⟩ := hQ6
  have N6 := Fr.app N5 Nq6
  obtain ⟨fs, hr, hrun, hended, hW, hsame⟩ := X6.leave (v := (some (.int 1))) (fun h => by rw [Bd.returns] at h; cases h)
  refine ⟨_, _, castTop (ef0_IIJJ m p0 p1 p2 p3) ?_, hrun, hended, _, _, rfl, ?_, ⟨_, rfl⟩, hW, hsame.mono (by decide) (by decide)⟩
  · show Steps p.tables e below (s₁.setTop (mkF m 0 #[.val (.int p0), .val (.int p1), .val (.long p2), .second, .val (.long p3), .second, .unset, .unset, .unset, .unset] [])) _
    refine XS.iloadN X0.here hx rfl (hb hby at_0) rfl ?_
    show Steps p.tables e below (s₁.setTop (mkF m 1 #[.val (.int p0), .val (.int p1), .val (.long p2), .second, .val (.long p3), .second, .unset, .unset, .unset, .unset] [(.int p0)])) _
    refine st1 _ ?_
    refine XS.astore X1.here hx rfl (hb hby at_4) rfl rfl (l' := #[.val (.int p0), .val (.int p1), .val (.long p2), .second, .val (.long p3), .second, .val (.ref a_EQ), .unset, .unset, .unset]) rfl ?_
    refine XS.aload X1.here hx rfl (hb hby at_6) rfl rfl ?_
    show Steps p.tables e below (T1.setTop (mkF m 8 #[.val (.int p0), .val (.int p1), .val (.long p2), .second, .val (.long p3), .second, .val (.ref a_EQ), .unset, .unset, .unset] [(.ref a_EQ)])) _
    refine st2.trans ?_
    refine XS.astore X2.here hx rfl (hb hby at_11) rfl rfl (l' := #[.val (.int p0), .val (.int p1), .val (.long p2), .second, .val (.long p3), .second, .val (.ref a_EQ), .val (.ref a_NOT_EQ), .unset, .unset]) rfl ?_
    refine XS.aload X2.here hx rfl (hb hby at_13) rfl rfl ?_
    refine XS.ifnonnullYes X2.here hx rfl (pc0 := 15) (pc' := 20) rfl (hb hby at_15) rfl (by decide) (by decide) ?_
    refine XS.aload X2.here hx rfl (hb hby at_20) rfl rfl ?_
    show Steps p.tables e below (T2.setTop (mkF m 22 #[.val (.int p0), .val (.int p1), .val (.long p2), .second, .val (.long p3), .second, .val (.ref a_EQ), .val (.ref a_NOT_EQ), .unset, .unset] [(.ref a_EQ)])) _
    refine st3.trans ?_
    refine XS.istore X3.here hx rfl (hb hby at_25) rfl (l' := #[.val (.int p0), .val (.int p1), .val (.long p2), .second, .val (.long p3), .second, .val (.ref a_EQ), .val (.ref a_NOT_EQ), .val (.int 1), .unset]) rfl ?_
    refine XS.iload X3.here hx rfl (hb hby at_27) rfl ?_
    refine XS.ifNo X3.here hx rfl (hb hby at_29) rfl (by decide) ?_
    refine XS.iconst X3.here hx rfl (hb hby at_32) ?_
    show Steps p.tables e below (T3.setTop (mkF m 33 #[.val (.int p0), .val (.int p1), .val (.long p2), .second, .val (.long p3), .second, .val (.ref a_EQ), .val (.ref a_NOT_EQ), .val (.int 1), .unset] [(.int 0)])) _
    refine XS.goto X3.here hx rfl (pc0 := 33) (pc' := 47) rfl (hb hby at_33) (by decide) (by decide) ?_
    refine XS.istore X3.here hx rfl (hb hby at_47) rfl (l' := #[.val (.int p0), .val (.int p1), .val (.long p2), .second, .val (.long p3), .second, .val (.ref a_EQ), .val (.ref a_NOT_EQ), .val (.int 1), .val (.int 0)]) rfl ?_
    refine XS.aload X3.here hx rfl (hb hby at_49) rfl rfl ?_
    show Steps p.tables e below (T3.setTop (mkF m 51 #[.val (.int p0), .val (.int p1), .val (.long p2), .second, .val (.long p3), .second, .val (.ref a_EQ), .val (.ref a_NOT_EQ), .val (.int 1), .val (.int 0)] [(.ref a_NOT_EQ)])) _
    refine st4.trans ?_
    refine XS.iload X4.here hx rfl (hb hby at_54) rfl ?_
    refine XS.icmpYes X4.here hx rfl (pc0 := 56) (pc' := 61) rfl (hb hby at_56) rfl (by decide) (by decide) (by decide) ?_
    refine XS.aload X4.here hx rfl (hb hby at_61) rfl rfl ?_
    refine XS.iload X4.here hx rfl (hb hby at_63) rfl ?_
    show Steps p.tables e below (T4.setTop (mkF m 65 #[.val (.int p0), .val (.int p1), .val (.long p2), .second, .val (.long p3), .second, .val (.ref a_EQ), .val (.ref a_NOT_EQ), .val (.int 1), .val (.int 0)] [(.int 0), (.ref a_NOT_EQ)])) _
    refine XS.lloadN X4.here hx rfl (hb hby at_65) rfl ?_
    refine XS.lload X4.here hx rfl (hb hby at_66) rfl ?_
    show Steps p.tables e below (T4.setTop (mkF m 68 #[.val (.int p0), .val (.int p1), .val (.long p2), .second, .val (.long p3), .second, .val (.ref a_EQ), .val (.ref a_NOT_EQ), .val (.int 1), .val (.int 0)] [(.long p3), (.long p2), (.int 0), (.ref a_NOT_EQ)])) _
    refine st5 _ ?_
    refine XS.aload X5.here hx rfl (hb hby at_71) rfl rfl ?_
    refine XS.iload X5.here hx rfl (hb hby at_73) rfl ?_
    refine XS.lloadN X5.here hx rfl (hb hby at_75) rfl ?_
    refine XS.lload X5.here hx rfl (hb hby at_76) rfl ?_
    show Steps p.tables e below (T5.setTop (mkF m 78 #[.val (.int p0), .val (.int p1), .val (.long p2), .second, .val (.long p3), .second, .val (.ref a_EQ), .val (.ref a_NOT_EQ), .val (.int 1), .val (.int 0)] [(.long p3), (.long p2), (.int 0), (.ref a_EQ), (.int 0)])) _
    refine st6 _ ?_
    refine XS.icmpNo X6.here hx rfl (hb hby at_81) rfl (by decide) ?_
    refine XS.iconst X6.here hx rfl (hb hby at_84) ?_
    refine XS.goto X6.here hx rfl (pc0 := 85) (pc' := 89) rfl (hb hby at_85) (by decide) (by decide) ?_
    show Steps p.tables e below (T6.setTop (mkF m 89 #[.val (.int p0), .val (.int p1), .val (.long p2), .second, .val (.long p3), .second, .val (.ref a_EQ), .val (.ref a_NOT_EQ), .val (.int 1), .val (.int 0)] [(.int 1)])) _
    exact retN X6 hx (t := .boolean) Bd.returns (by simp) (hb hby at_89) hr
  · show QT n0 _ T6.heap _
    rw [e6]
    exact ⟨rfl, N6⟩
set_option maxRecDepth 65536 in
set_option maxHeartbeats 40000000 in
theorem rm5_42 (l : Launch) (Z : State) (a0 : Array Value) (hw : ∀ d ∈ tables_1, d.before a0 Z = true) (ws : List Jvm.Cond) (a_NOT_EQ : Addr) (p2 : Int64) (p3 : Int64) (a_IS_NULL : Addr) (a_NOT_NULL : Addr) (a_EQ : Addr) (h0 : Heap) (n0 : Nat) (Z0 : n0 ≤ h0.size) (f1 : S_2 Z h0 (.ref a_IS_NULL)) (f2 : a_NOT_EQ ≠ a_IS_NULL) (f3 : S_3 Z h0 (.ref a_NOT_NULL)) (f4 : a_NOT_EQ ≠ a_NOT_NULL) (f5 : S_0 Z h0 (.ref a_EQ)) (f6 : a_EQ ≠ a_NOT_EQ) (f7 : S_1 Z h0 (.ref a_NOT_EQ)) (f8 : (lcmpW p2 p3) = (1 : Int32)) :
    MetFree l M_5 (head1 (Jvm.Cond.code M_5 method_3_code 6 (some .boolean) :: ws) R_0_0_0_0) (fun a U => a = #[(.ref a_NOT_EQ), (.int 0), (.long p2), (.long p3)] ∧ Z.Warmed39 U.vm ∧ U.heap = h0) (fun _ _ _ _ _ => True) (fun _ U o U' => ∃ v L, o = .returned v ∧ QP (some (.int 1)) h0 n0 v U'.heap L ∧ FrameEnd U o U' L R_0_0_0_0.cells R_0_0_0_0.slots) := by
  refine MetFree.of_bodySF (plainFor_of_name pn_com_example_floe_floe_OperationNegatePinLaw) hisR ?_
  intro p e s m args below meth c s₁ Bd hml0 hP hK
  obtain ⟨rfl, hZ, hh⟩ := hP
  have hx := Bd.exec
  have hby := Bd.bytes
  have hml : c.maxLocals = 6 := hml0
  have hown : s.vm.findClass "com/example/floe/floe/OperationNegatePinLaw" = some m.cls := findClass_of_methodNamed Bd.named
  have hnm := (name_of_methodNamed Bd.named Bd.method).1
  have X0 : Stand p l e R_0_0_0_0 s m #[(.ref a_NOT_EQ), (.int 0), (.long p2), (.long p3)] below meth c s₁ [] 0 0 := Stand.of_body Bd
  have e0 : s₁.heap = h0 := by rw [← hh, Bd.state]; rfl
  have N0 := Fr.nil n0
  obtain ⟨T1, X1, e1, st1⟩ := getS2 X0 hx hZ hown (host := "") (Or.inl (tw_35 hw)) Via.refl e0 f1 (g := (mkF m 1 #[.val (.ref a_NOT_EQ), .val (.int 0), .val (.long p2), .second, .val (.long p3), .second] [(.ref a_NOT_EQ)])) rfl (hb hby d5_1)
  obtain ⟨T2, X2, e2, st2⟩ := getS2 X1 hx hZ hown (host := "") (Or.inl (tw_36 hw)) Via.refl e1 f3 (g := (mkF m 10 #[.val (.ref a_NOT_EQ), .val (.int 0), .val (.long p2), .second, .val (.long p3), .second] [(.ref a_NOT_EQ)])) rfl (hb hby d5_10)
  obtain ⟨T3, X3, e3, st3⟩ := getS2 X2 hx hZ hown (host := "") (Or.inl (tw_4 hw)) Via.refl e2 f5 (g := (mkF m 27 #[.val (.ref a_NOT_EQ), .val (.int 0), .val (.long p2), .second, .val (.long p3), .second] [(.ref a_NOT_EQ)])) rfl (hb hby d5_27)
  obtain ⟨T4, X4, e4, st4⟩ := getS2 X3 hx hZ hown (host := "") (Or.inl (tw_37 hw)) Via.refl e3 f7 (g := (mkF m 47 #[.val (.ref a_NOT_EQ), .val (.int 0), .val (.long p2), .second, .val (.long p3), .second] [(.ref a_NOT_EQ)])) rfl (hb hby d5_47)
  obtain ⟨fs, hr, hrun, hended, hW, hsame⟩ := X4.leave (v := (some (.int 1))) (fun h => by rw [Bd.returns] at h; cases h)
  refine ⟨_, _, castTop (ef5_RIJJ m a_NOT_EQ (0 : Int32) p2 p3) ?_, hrun, hended, _, _, rfl, ?_, ⟨_, rfl⟩, hW, hsame.mono (by decide) (by decide)⟩
  · show Steps p.tables e below (s₁.setTop (mkF m 0 #[.val (.ref a_NOT_EQ), .val (.int 0), .val (.long p2), .second, .val (.long p3), .second] [])) _
    refine XS.aloadN X0.here hx rfl (hb hby d5_0) rfl rfl ?_
    show Steps p.tables e below (s₁.setTop (mkF m 1 #[.val (.ref a_NOT_EQ), .val (.int 0), .val (.long p2), .second, .val (.long p3), .second] [(.ref a_NOT_EQ)])) _
    refine st1 _ ?_
    show Steps p.tables e below (T1.setTop (mkF m 4 #[.val (.ref a_NOT_EQ), .val (.int 0), .val (.long p2), .second, .val (.long p3), .second] [(.ref a_IS_NULL), (.ref a_NOT_EQ)])) _
    refine Jvm.RoadKit.acmp (g := (mkF m 4 #[.val (.ref a_NOT_EQ), .val (.int 0), .val (.long p2), .second, .val (.long p3), .second] [(.ref a_IS_NULL), (.ref a_NOT_EQ)])) X1 hx rfl rfl rfl (pc0 := 4) (pc' := 9) (same := false) rfl (hb hby d5_4) rfl (decide_eq_false fun q => f2 (Value.ref.inj q)) (by decide) (by decide) ?_
    refine XS.aloadN X1.here hx rfl (hb hby d5_9) rfl rfl ?_
    show Steps p.tables e below (T1.setTop (mkF m 10 #[.val (.ref a_NOT_EQ), .val (.int 0), .val (.long p2), .second, .val (.long p3), .second] [(.ref a_NOT_EQ)])) _
    refine st2 _ ?_
    show Steps p.tables e below (T2.setTop (mkF m 13 #[.val (.ref a_NOT_EQ), .val (.int 0), .val (.long p2), .second, .val (.long p3), .second] [(.ref a_NOT_NULL), (.ref a_NOT_EQ)])) _
    refine Jvm.RoadKit.acmp (g := (mkF m 13 #[.val (.ref a_NOT_EQ), .val (.int 0), .val (.long p2), .second, .val (.long p3), .second] [(.ref a_NOT_NULL), (.ref a_NOT_EQ)])) X2 hx rfl rfl rfl (pc0 := 13) (pc' := 26) (same := false) rfl (hb hby d5_13) rfl (decide_eq_false fun q => f4 (Value.ref.inj q)) (by decide) (by decide) ?_
    refine XS.aloadN X2.here hx rfl (hb hby d5_26) rfl rfl ?_
    show Steps p.tables e below (T2.setTop (mkF m 27 #[.val (.ref a_NOT_EQ), .val (.int 0), .val (.long p2), .second, .val (.long p3), .second] [(.ref a_NOT_EQ)])) _
    refine st3 _ ?_
    show Steps p.tables e below (T3.setTop (mkF m 30 #[.val (.ref a_NOT_EQ), .val (.int 0), .val (.long p2), .second, .val (.long p3), .second] [(.ref a_EQ), (.ref a_NOT_EQ)])) _
    refine Jvm.RoadKit.acmp (g := (mkF m 30 #[.val (.ref a_NOT_EQ), .val (.int 0), .val (.long p2), .second, .val (.long p3), .second] [(.ref a_EQ), (.ref a_NOT_EQ)])) X3 hx rfl rfl rfl (pc0 := 30) (pc' := 46) (same := false) rfl (hb hby d5_30) rfl (decide_eq_false fun q => (Ne.symm f6) (Value.ref.inj q)) (by decide) (by decide) ?_
    refine XS.aloadN X3.here hx rfl (hb hby d5_46) rfl rfl ?_
    show Steps p.tables e below (T3.setTop (mkF m 47 #[.val (.ref a_NOT_EQ), .val (.int 0), .val (.long p2), .second, .val (.long p3), .second] [(.ref a_NOT_EQ)])) _
    refine st4 _ ?_
    show Steps p.tables e below (T4.setTop (mkF m 50 #[.val (.ref a_NOT_EQ), .val (.int 0), .val (.long p2), .second, .val (.long p3), .second] [(.ref a_NOT_EQ), (.ref a_NOT_EQ)])) _
    refine Jvm.RoadKit.acmp (g := (mkF m 50 #[.val (.ref a_NOT_EQ), .val (.int 0), .val (.long p2), .second, .val (.long p3), .second] [(.ref a_NOT_EQ), (.ref a_NOT_EQ)])) X4 hx rfl rfl rfl (pc0 := 50) (pc' := 53) (same := true) rfl (hb hby d5_50) rfl (decide_eq_true rfl) (by decide) (by decide) ?_
    refine XS.lloadN X4.here hx rfl (hb hby d5_53) rfl ?_
    refine XS.lload X4.here hx rfl (hb hby d5_54) rfl ?_
    show Steps p.tables e below (T4.setTop (mkF m 56 #[.val (.ref a_NOT_EQ), .val (.int 0), .val (.long p2), .second, .val (.long p3), .second] [(.long p3), (.long p2)])) _
    refine XS.lcmp X4.here hx rfl (hb hby d5_56) rfl ?_
    show Steps p.tables e below (T4.setTop (mkF m 57 #[.val (.ref a_NOT_EQ), .val (.int 0), .val (.long p2), .second, .val (.long p3), .second] [(.int (lcmpW p2 p3))])) _
    rw [f8]
    refine XS.ifNo X4.here hx rfl (hb hby d5_57) rfl (by decide) ?_
    refine XS.iconst X4.here hx rfl (hb hby d5_60) ?_
    refine XS.goto X4.here hx rfl (pc0 := 61) (pc' := 65) rfl (hb hby d5_61) (by decide) (by decide) ?_
    show Steps p.tables e below (T4.setTop (mkF m 65 #[.val (.ref a_NOT_EQ), .val (.int 0), .val (.long p2), .second, .val (.long p3), .second] [(.int 1)])) _
    exact retN X4 hx (t := .boolean) Bd.returns (by simp) (hb hby d5_65) hr
  · show QP (some (.int 1)) h0 n0 _ T4.heap _
    rw [e4]
    exact ⟨rfl, N0, rfl⟩
set_option maxRecDepth 65536 in
set_option maxHeartbeats 40000000 in
theorem rm5_43 (l : Launch) (Z : State) (a0 : Array Value) (hw : ∀ d ∈ tables_1, d.before a0 Z = true) (ws : List Jvm.Cond) (a_EQ : Addr) (p2 : Int64) (p3 : Int64) (a_IS_NULL : Addr) (a_NOT_NULL : Addr) (h0 : Heap) (n0 : Nat) (Z0 : n0 ≤ h0.size) (f1 : S_2 Z h0 (.ref a_IS_NULL)) (f2 : a_EQ ≠ a_IS_NULL) (f3 : S_3 Z h0 (.ref a_NOT_NULL)) (f4 : a_EQ ≠ a_NOT_NULL) (f5 : S_0 Z h0 (.ref a_EQ)) (f6 : (lcmpW p2 p3) = (1 : Int32)) :
    MetFree l M_5 (head1 (Jvm.Cond.code M_5 method_3_code 6 (some .boolean) :: ws) R_0_0_0_0) (fun a U => a = #[(.ref a_EQ), (.int 0), (.long p2), (.long p3)] ∧ Z.Warmed39 U.vm ∧ U.heap = h0) (fun _ _ _ _ _ => True) (fun _ U o U' => ∃ v L, o = .returned v ∧ QP (some (.int 0)) h0 n0 v U'.heap L ∧ FrameEnd U o U' L R_0_0_0_0.cells R_0_0_0_0.slots) := by
  refine MetFree.of_bodySF (plainFor_of_name pn_com_example_floe_floe_OperationNegatePinLaw) hisR ?_
  intro p e s m args below meth c s₁ Bd hml0 hP hK
  obtain ⟨rfl, hZ, hh⟩ := hP
  have hx := Bd.exec
  have hby := Bd.bytes
  have hml : c.maxLocals = 6 := hml0
  have hown : s.vm.findClass "com/example/floe/floe/OperationNegatePinLaw" = some m.cls := findClass_of_methodNamed Bd.named
  have hnm := (name_of_methodNamed Bd.named Bd.method).1
  have X0 : Stand p l e R_0_0_0_0 s m #[(.ref a_EQ), (.int 0), (.long p2), (.long p3)] below meth c s₁ [] 0 0 := Stand.of_body Bd
  have e0 : s₁.heap = h0 := by rw [← hh, Bd.state]; rfl
  have N0 := Fr.nil n0
  obtain ⟨T1, X1, e1, st1⟩ := getS2 X0 hx hZ hown (host := "") (Or.inl (tw_35 hw)) Via.refl e0 f1 (g := (mkF m 1 #[.val (.ref a_EQ), .val (.int 0), .val (.long p2), .second, .val (.long p3), .second] [(.ref a_EQ)])) rfl (hb hby d5_1)
  obtain ⟨T2, X2, e2, st2⟩ := getS2 X1 hx hZ hown (host := "") (Or.inl (tw_36 hw)) Via.refl e1 f3 (g := (mkF m 10 #[.val (.ref a_EQ), .val (.int 0), .val (.long p2), .second, .val (.long p3), .second] [(.ref a_EQ)])) rfl (hb hby d5_10)
  obtain ⟨T3, X3, e3, st3⟩ := getS2 X2 hx hZ hown (host := "") (Or.inl (tw_4 hw)) Via.refl e2 f5 (g := (mkF m 27 #[.val (.ref a_EQ), .val (.int 0), .val (.long p2), .second, .val (.long p3), .second] [(.ref a_EQ)])) rfl (hb hby d5_27)
  obtain ⟨fs, hr, hrun, hended, hW, hsame⟩ := X3.leave (v := (some (.int 0))) (fun h => by rw [Bd.returns] at h; cases h)
  refine ⟨_, _, castTop (ef5_RIJJ m a_EQ (0 : Int32) p2 p3) ?_, hrun, hended, _, _, rfl, ?_, ⟨_, rfl⟩, hW, hsame.mono (by decide) (by decide)⟩
  · show Steps p.tables e below (s₁.setTop (mkF m 0 #[.val (.ref a_EQ), .val (.int 0), .val (.long p2), .second, .val (.long p3), .second] [])) _
    refine XS.aloadN X0.here hx rfl (hb hby d5_0) rfl rfl ?_
    show Steps p.tables e below (s₁.setTop (mkF m 1 #[.val (.ref a_EQ), .val (.int 0), .val (.long p2), .second, .val (.long p3), .second] [(.ref a_EQ)])) _
    refine st1 _ ?_
    show Steps p.tables e below (T1.setTop (mkF m 4 #[.val (.ref a_EQ), .val (.int 0), .val (.long p2), .second, .val (.long p3), .second] [(.ref a_IS_NULL), (.ref a_EQ)])) _
    refine Jvm.RoadKit.acmp (g := (mkF m 4 #[.val (.ref a_EQ), .val (.int 0), .val (.long p2), .second, .val (.long p3), .second] [(.ref a_IS_NULL), (.ref a_EQ)])) X1 hx rfl rfl rfl (pc0 := 4) (pc' := 9) (same := false) rfl (hb hby d5_4) rfl (decide_eq_false fun q => f2 (Value.ref.inj q)) (by decide) (by decide) ?_
    refine XS.aloadN X1.here hx rfl (hb hby d5_9) rfl rfl ?_
    show Steps p.tables e below (T1.setTop (mkF m 10 #[.val (.ref a_EQ), .val (.int 0), .val (.long p2), .second, .val (.long p3), .second] [(.ref a_EQ)])) _
    refine st2 _ ?_
    show Steps p.tables e below (T2.setTop (mkF m 13 #[.val (.ref a_EQ), .val (.int 0), .val (.long p2), .second, .val (.long p3), .second] [(.ref a_NOT_NULL), (.ref a_EQ)])) _
    refine Jvm.RoadKit.acmp (g := (mkF m 13 #[.val (.ref a_EQ), .val (.int 0), .val (.long p2), .second, .val (.long p3), .second] [(.ref a_NOT_NULL), (.ref a_EQ)])) X2 hx rfl rfl rfl (pc0 := 13) (pc' := 26) (same := false) rfl (hb hby d5_13) rfl (decide_eq_false fun q => f4 (Value.ref.inj q)) (by decide) (by decide) ?_
    refine XS.aloadN X2.here hx rfl (hb hby d5_26) rfl rfl ?_
    show Steps p.tables e below (T2.setTop (mkF m 27 #[.val (.ref a_EQ), .val (.int 0), .val (.long p2), .second, .val (.long p3), .second] [(.ref a_EQ)])) _
    refine st3 _ ?_
    show Steps p.tables e below (T3.setTop (mkF m 30 #[.val (.ref a_EQ), .val (.int 0), .val (.long p2), .second, .val (.long p3), .second] [(.ref a_EQ), (.ref a_EQ)])) _
    refine Jvm.RoadKit.acmp (g := (mkF m 30 #[.val (.ref a_EQ), .val (.int 0), .val (.long p2), .second, .val (.long p3), .second] [(.ref a_EQ), (.ref a_EQ)])) X3 hx rfl rfl rfl (pc0 := 30) (pc' := 33) (same := true) rfl (hb hby d5_30) rfl (decide_eq_true rfl) (by decide) (by decide) ?_
    refine XS.lloadN X3.here hx rfl (hb hby d5_33) rfl ?_
    refine XS.lload X3.here hx rfl (hb hby d5_34) rfl ?_
    show Steps p.tables e below (T3.setTop (mkF m 36 #[.val (.ref a_EQ), .val (.int 0), .val (.long p2), .second, .val (.long p3), .second] [(.long p3), (.long p2)])) _
    refine XS.lcmp X3.here hx rfl (hb hby d5_36) rfl ?_
    show Steps p.tables e below (T3.setTop (mkF m 37 #[.val (.ref a_EQ), .val (.int 0), .val (.long p2), .second, .val (.long p3), .second] [(.int (lcmpW p2 p3))])) _
    rw [f6]
    refine XS.ifYes X3.here hx rfl (pc0 := 37) (pc' := 44) rfl (hb hby d5_37) rfl (by decide) (by decide) (by decide) ?_
    refine XS.iconst X3.here hx rfl (hb hby d5_44) ?_
    show Steps p.tables e below (T3.setTop (mkF m 45 #[.val (.ref a_EQ), .val (.int 0), .val (.long p2), .second, .val (.long p3), .second] [(.int 0)])) _
    exact retN X3 hx (t := .boolean) Bd.returns (by simp) (hb hby d5_45) hr
  · show QP (some (.int 0)) h0 n0 _ T3.heap _
    rw [e3]
    exact ⟨rfl, N0, rfl⟩
set_option maxRecDepth 65536 in
set_option maxHeartbeats 40000000 in
theorem rm0_44 (l : Launch) (Z : State) (a0 : Array Value) (hw : ∀ d ∈ tables_1, d.before a0 Z = true) (ws : List Jvm.Cond) (p0 : Int32) (p1 : Int32) (p2 : Int64) (p3 : Int64) (a_EQ : Addr) (a_NOT_EQ : Addr) (a_IS_NULL : Addr) (a_NOT_NULL : Addr) (h0 : Heap) (n0 : Nat) (Z0 : n0 ≤ h0.size) (f1 : (p0 &&& (7 : Int32)) = (0 : Int32)) (f2 : S_0 Z h0 (.ref a_EQ)) (f3 : F_0 Z h0 a_EQ (.int 0)) (f4 : E_0 Z h0 a_EQ) (f5 : S_1 Z h0 (.ref a_NOT_EQ)) (f6 : S_2 Z h0 (.ref a_IS_NULL)) (f7 : a_EQ ≠ a_IS_NULL) (f8 : S_3 Z h0 (.ref a_NOT_NULL)) (f9 : a_EQ ≠ a_NOT_NULL) (f10 : a_IS_NULL ≠ a_NOT_EQ) (f11 : a_NOT_NULL ≠ a_NOT_EQ) (f12 : E_0 Z h0 a_NOT_EQ) (f13 : a_EQ ≠ a_NOT_EQ) (f14 : (lcmpW p2 p3) = (1 : Int32)) :
    MetFree l x (head1 (Jvm.Cond.code x code maxLocals ret :: ws) room_1) (fun a U => a = #[(.int p0), (.int p1), (.long p2), (.long p3)] ∧ Z.Warmed39 U.vm ∧ U.heap = h0) (fun _ _ _ _ _ => True) (fun _ U o U' => ∃ v L, o = .returned v ∧ QT n0 v U'.heap L ∧ FrameEnd U o U' L room_1.cells room_1.slots) := by
  refine MetFree.of_bodySF (plainFor_of_name pn_com_example_floe_floe_OperationNegatePinLaw) hisR ?_
  intro p e s m args below meth c s₁ Bd hml0 hP hK
  obtain ⟨rfl, hZ, hh⟩ := hP
  have hx := Bd.exec
  have hby := Bd.bytes
  have hml : c.maxLocals = 10 := hml0
  have hown : s.vm.findClass "com/example/floe/floe/OperationNegatePinLaw" = some m.cls := findClass_of_methodNamed Bd.named
  have hnm := (name_of_methodNamed Bd.named Bd.method).1
  have X0 : Stand p l e room_1 s m #[(.int p0), (.int p1), (.long p2), (.long p3)] below meth c s₁ [] 0 0 := Stand.of_body Bd
  have e0 : s₁.heap = h0 := by rw [← hh, Bd.state]; rfl
  have N0 := Fr.nil n0
  -- pc 1: com/example/floe/floe/OperationNegatePinLaw.pick
  obtain ⟨_, _, ⟨T1, L1, k1, n1⟩, -, X1, ⟨Lc1, hQ1, l1, y1, z1⟩, st1⟩ := Jvm.LawKit.callS X0 hx (y := M_0) hown (mvT hZ (tw_0 hw)) (mvT hZ (tw_1 hw)) (mvT hZ (tw_2 hw)) (mvT hZ (tw_3 hw)) (by decide) (backOf (W := 0) (rm1_31 l Z a0 hw [] p0 a_EQ h0 n0 Z0 f1 f2) hZ (tw_3 hw) (tw_2 hw) (by decide) (by decide)) (g := (mkF m 1 #[.val (.int p0), .val (.int p1), .val (.long p2), .second, .val (.long p3), .second, .unset, .unset, .unset, .unset] [(.int p0)])) rfl (by rw [hml]; rfl) (argsL := [(.int p0)]) (rest := []) (lenOf pd_0 rfl) rfl (by show 2 * 0 + _ ≤ _; exact Nat.le_of_eq rfl) (hb hby at_1) (fun _ _ => ⟨rfl, e0, (by decide : 0 + 0 ≤ _), (by decide : 0 + 0 ≤ _)⟩)
  dsimp only [Pt.U, Pt.locs, Pt.cells, Pt.slots] at X1 l1 y1 z1 st1 hQ1
  subst l1 y1 z1
  obtain ⟨rfl, Nq1, e1⟩ := hQ1
  have N1 := Fr.app N0 Nq1
  -- pc 8: com/example/floe/floe/Expression$Operation.negate
  obtain ⟨cq2, kq2, q2a, q2b, q2c⟩ := isOf hZ e1 f4
  obtain ⟨_, _, ⟨T2, L2, k2, n2⟩, -, X2, ⟨Lc2, hQ2, l2, y2, z2⟩, st2⟩ := X1.virtualBack hx (y := M_3) (z := M_3) hown (mvT hZ (tw_7 hw)) (mvT hZ (tw_8 hw)) (notFace_of_selects (args := #[]) (mvT hZ (tw_10 hw))) (mvT hZ (tw_10 hw)) (mvT hZ (tw_9 hw)) (by decide) (backOf (W := 0) (rm2_33 l Z a0 hw [] a_EQ a_NOT_EQ h0 n0 Z0 f3 f4 f5) hZ (tw_11 hw) (tw_5 hw) (by decide) (by decide)) q2a q2c (g := (mkF m 8 #[.val (.int p0), .val (.int p1), .val (.long p2), .second, .val (.long p3), .second, .val (.ref a_EQ), .unset, .unset, .unset] [(.ref a_EQ)])) rfl (by rw [hml]; rfl) (Steps.refl _) (argsL := []) (rest := []) (lenOf pd_2 rfl) rfl (by show 2 * 0 + _ ≤ _; exact Nat.le_of_eq rfl) (hb hby at_8) (fun _ _ => ⟨rfl, e1, (by decide : 0 + 0 ≤ _), (by decide : 0 + 0 ≤ _)⟩)
  dsimp only [Pt.U, Pt.locs, Pt.cells, Pt.slots] at X2 l2 y2 z2 st2 hQ2
  subst l2 y2 z2
  obtain ⟨rfl, Nq2, e2⟩ := hQ2
  have N2 := Fr.app N1 Nq2
  -- pc 22: com/example/floe/floe/Expression$Operation.compares
  obtain ⟨cq3, kq3, q3a, q3b, q3c⟩ := isOf hZ e2 f4
  obtain ⟨_, _, ⟨T3, L3, k3, n3⟩, -, X3, ⟨Lc3, hQ3, l3, y3, z3⟩, st3⟩ := X2.virtualBack hx (y := M_4) (z := M_4) hown (mvT hZ (tw_23 hw)) (mvT hZ (tw_24 hw)) (notFace_of_selects (args := #[]) (mvT hZ (tw_26 hw))) (mvT hZ (tw_26 hw)) (mvT hZ (tw_25 hw)) (by decide) (backOf (W := 0) (rm4_34 l Z a0 hw [] a_EQ a_IS_NULL a_NOT_NULL h0 n0 Z0 f6 f7 f8 f9) hZ (tw_27 hw) (tw_5 hw) (by decide) (by decide)) q3a q3c (g := (mkF m 22 #[.val (.int p0), .val (.int p1), .val (.long p2), .second, .val (.long p3), .second, .val (.ref a_EQ), .val (.ref a_NOT_EQ), .unset, .unset] [(.ref a_EQ)])) rfl (by rw [hml]; rfl) (Steps.refl _) (argsL := []) (rest := []) (lenOf pd_3 rfl) rfl (by show 2 * 0 + _ ≤ _; exact Nat.le_of_eq rfl) (hb hby at_22) (fun _ _ => ⟨rfl, e2, (by decide : 0 + 0 ≤ _), (by decide : 0 + 0 ≤ _)⟩)
  dsimp only [Pt.U, Pt.locs, Pt.cells, Pt.slots] at X3 l3 y3 z3 st3 hQ3
  subst l3 y3 z3
  obtain ⟨rfl, Nq3, e3⟩ := hQ3
  have N3 := Fr.app N2 Nq3
  -- pc 51: com/example/floe/floe/Expression$Operation.compares
  obtain ⟨cq4, kq4, q4a, q4b, q4c⟩ := isOf hZ e3 f12
  obtain ⟨_, _, ⟨T4, L4, k4, n4⟩, -, X4, ⟨Lc4, hQ4, l4, y4, z4⟩, st4⟩ := X3.virtualBack hx (y := M_4) (z := M_4) hown (mvT hZ (tw_23 hw)) (mvT hZ (tw_24 hw)) (notFace_of_selects (args := #[]) (mvT hZ (tw_26 hw))) (mvT hZ (tw_26 hw)) (mvT hZ (tw_25 hw)) (by decide) (backOf (W := 0) (rm4_35 l Z a0 hw [] a_NOT_EQ a_IS_NULL a_NOT_NULL h0 n0 Z0 f6 f10 f8 f11) hZ (tw_27 hw) (tw_5 hw) (by decide) (by decide)) q4a q4c (g := (mkF m 51 #[.val (.int p0), .val (.int p1), .val (.long p2), .second, .val (.long p3), .second, .val (.ref a_EQ), .val (.ref a_NOT_EQ), .val (.int 1), .val (.int 0)] [(.ref a_NOT_EQ)])) rfl (by rw [hml]; rfl) (Steps.refl _) (argsL := []) (rest := []) (lenOf pd_3 rfl) rfl (by show 2 * 0 + _ ≤ _; exact Nat.le_of_eq rfl) (hb hby at_51) (fun _ _ => ⟨rfl, e3, (by decide : 0 + 0 ≤ _), (by decide : 0 + 0 ≤ _)⟩)
  dsimp only [Pt.U, Pt.locs, Pt.cells, Pt.slots] at X4 l4 y4 z4 st4 hQ4
  subst l4 y4 z4
  obtain ⟨rfl, Nq4, e4⟩ := hQ4
  have N4 := Fr.app N3 Nq4
  -- pc 68: com/example/floe/floe/OperationNegatePinLaw.holds
  obtain ⟨_, _, ⟨T5, L5, k5, n5⟩, -, X5, ⟨Lc5, hQ5, l5, y5, z5⟩, st5⟩ := Jvm.LawKit.callS X4 hx (y := M_5) hown (mvT hZ (tw_32 hw)) (mvT hZ (tw_33 hw)) (mvT hZ (tw_2 hw)) (mvT hZ (tw_34 hw)) (by decide) (backOf (W := 0) (rm5_42 l Z a0 hw [] a_NOT_EQ p2 p3 a_IS_NULL a_NOT_NULL a_EQ h0 n0 Z0 f6 (Ne.symm f10) f8 (Ne.symm f11) f2 f13 f5 f14) hZ (tw_34 hw) (tw_2 hw) (by decide) (by decide)) (g := (mkF m 68 #[.val (.int p0), .val (.int p1), .val (.long p2), .second, .val (.long p3), .second, .val (.ref a_EQ), .val (.ref a_NOT_EQ), .val (.int 1), .val (.int 0)] [(.long p3), (.long p2), (.int 0), (.ref a_NOT_EQ)])) rfl (by rw [hml]; rfl) (argsL := [(.ref a_NOT_EQ), (.int 0), (.long p2), (.long p3)]) (rest := []) (lenOf pd_4 rfl) rfl (by show 2 * 0 + _ ≤ _; exact Nat.le_of_eq rfl) (hb hby at_68) (fun _ _ => ⟨rfl, e4, (by decide : 0 + 0 ≤ _), (by decide : 0 + 0 ≤ _)⟩)
  dsimp only [Pt.U, Pt.locs, Pt.cells, Pt.slots] at X5 l5 y5 z5 st5 hQ5
  subst l5 y5 z5
  obtain ⟨rfl, Nq5, e5⟩ := hQ5
  have N5 := Fr.app N4 Nq5
  -- pc 78: com/example/floe/floe/OperationNegatePinLaw.holds
  obtain ⟨_, _, ⟨T6, L6, k6, n6⟩, -, X6, ⟨Lc6, hQ6, l6, y6, z6⟩, st6⟩ := Jvm.LawKit.callS X5 hx (y := M_5) hown (mvT hZ (tw_32 hw)) (mvT hZ (tw_33 hw)) (mvT hZ (tw_2 hw)) (mvT hZ (tw_34 hw)) (by decide) (backOf (W := 1) (rm5_43 l Z a0 hw [] a_EQ p2 p3 a_IS_NULL a_NOT_NULL h0 n0 Z0 f6 f7 f8 f9 f2 f14) hZ (tw_34 hw) (tw_2 hw) (by decide) (by decide)) (g := (mkF m 78 #[.val (.int p0), .val (.int p1), .val (.long p2), .second, .val (.long p3), .second, .val (.ref a_EQ), .val (.ref a_NOT_EQ), .val (.int 1), .val (.int 0)] [(.long p3), (.long p2), (.int 0), (.ref a_EQ), (.int 1)])) rfl (by rw [hml]; rfl) (argsL := [(.ref a_EQ), (.int 0), (.long p2), (.long p3)]) (rest := [(.int 1)]) (lenOf pd_4 rfl) rfl (by show 2 * 0 + _ ≤ _; exact Nat.le_of_eq rfl) (hb hby at_78) (fun _ _ => ⟨rfl, e5, (by decide : 0 + 0 ≤ _), (by decide : 0 + 0 ≤ _)⟩)
  dsimp only [Pt.U, Pt.locs, Pt.cells, Pt.slots] at X6 l6 y6 z6 st6 hQ6
  subst l6 y6 z6
  obtain ⟨rfl, Nq6, e6⟩ := hQ6
  have N6 := Fr.app N5 Nq6
  obtain ⟨fs, hr, hrun, hended, hW, hsame⟩ := X6.leave (v := (some (.int 1))) (fun h => by rw [Bd.returns] at h; cases h)
  refine ⟨_, _, castTop (ef0_IIJJ m p0 p1 p2 p3) ?_, hrun, hended, _, _, rfl, ?_, ⟨_, rfl⟩, hW, hsame.mono (by decide) (by decide)⟩
  · show Steps p.tables e below (s₁.setTop (mkF m 0 #[.val (.int p0), .val (.int p1), .val (.long p2), .second, .val (.long p3), .second, .unset, .unset, .unset, .unset] [])) _
    refine XS.iloadN X0.here hx rfl (hb hby at_0) rfl ?_
    show Steps p.tables e below (s₁.setTop (mkF m 1 #[.val (.int p0), .val (.int p1), .val (.long p2), .second, .val (.long p3), .second, .unset, .unset, .unset, .unset] [(.int p0)])) _
    refine st1 _ ?_
    refine XS.astore X1.here hx rfl (hb hby at_4) rfl rfl (l' := #[.val (.int p0), .val (.int p1), .val (.long p2), .second, .val (.long p3), .second, .val (.ref a_EQ), .unset, .unset, .unset]) rfl ?_
    refine XS.aload X1.here hx rfl (hb hby at_6) rfl rfl ?_
    show Steps p.tables e below (T1.setTop (mkF m 8 #[.val (.int p0), .val (.int p1), .val (.long p2), .second, .val (.long p3), .second, .val (.ref a_EQ), .unset, .unset, .unset] [(.ref a_EQ)])) _
    refine st2.trans ?_
    refine XS.astore X2.here hx rfl (hb hby at_11) rfl rfl (l' := #[.val (.int p0), .val (.int p1), .val (.long p2), .second, .val (.long p3), .second, .val (.ref a_EQ), .val (.ref a_NOT_EQ), .unset, .unset]) rfl ?_
    refine XS.aload X2.here hx rfl (hb hby at_13) rfl rfl ?_
    refine XS.ifnonnullYes X2.here hx rfl (pc0 := 15) (pc' := 20) rfl (hb hby at_15) rfl (by decide) (by decide) ?_
    refine XS.aload X2.here hx rfl (hb hby at_20) rfl rfl ?_
    show Steps p.tables e below (T2.setTop (mkF m 22 #[.val (.int p0), .val (.int p1), .val (.long p2), .second, .val (.long p3), .second, .val (.ref a_EQ), .val (.ref a_NOT_EQ), .unset, .unset] [(.ref a_EQ)])) _
    refine st3.trans ?_
    refine XS.istore X3.here hx rfl (hb hby at_25) rfl (l' := #[.val (.int p0), .val (.int p1), .val (.long p2), .second, .val (.long p3), .second, .val (.ref a_EQ), .val (.ref a_NOT_EQ), .val (.int 1), .unset]) rfl ?_
    refine XS.iload X3.here hx rfl (hb hby at_27) rfl ?_
    refine XS.ifNo X3.here hx rfl (hb hby at_29) rfl (by decide) ?_
    refine XS.iconst X3.here hx rfl (hb hby at_32) ?_
    show Steps p.tables e below (T3.setTop (mkF m 33 #[.val (.int p0), .val (.int p1), .val (.long p2), .second, .val (.long p3), .second, .val (.ref a_EQ), .val (.ref a_NOT_EQ), .val (.int 1), .unset] [(.int 0)])) _
    refine XS.goto X3.here hx rfl (pc0 := 33) (pc' := 47) rfl (hb hby at_33) (by decide) (by decide) ?_
    refine XS.istore X3.here hx rfl (hb hby at_47) rfl (l' := #[.val (.int p0), .val (.int p1), .val (.long p2), .second, .val (.long p3), .second, .val (.ref a_EQ), .val (.ref a_NOT_EQ), .val (.int 1), .val (.int 0)]) rfl ?_
    refine XS.aload X3.here hx rfl (hb hby at_49) rfl rfl ?_
    show Steps p.tables e below (T3.setTop (mkF m 51 #[.val (.int p0), .val (.int p1), .val (.long p2), .second, .val (.long p3), .second, .val (.ref a_EQ), .val (.ref a_NOT_EQ), .val (.int 1), .val (.int 0)] [(.ref a_NOT_EQ)])) _
    refine st4.trans ?_
    refine XS.iload X4.here hx rfl (hb hby at_54) rfl ?_
    refine XS.icmpYes X4.here hx rfl (pc0 := 56) (pc' := 61) rfl (hb hby at_56) rfl (by decide) (by decide) (by decide) ?_
    refine XS.aload X4.here hx rfl (hb hby at_61) rfl rfl ?_
    refine XS.iload X4.here hx rfl (hb hby at_63) rfl ?_
    show Steps p.tables e below (T4.setTop (mkF m 65 #[.val (.int p0), .val (.int p1), .val (.long p2), .second, .val (.long p3), .second, .val (.ref a_EQ), .val (.ref a_NOT_EQ), .val (.int 1), .val (.int 0)] [(.int 0), (.ref a_NOT_EQ)])) _
    refine XS.lloadN X4.here hx rfl (hb hby at_65) rfl ?_
    refine XS.lload X4.here hx rfl (hb hby at_66) rfl ?_
    show Steps p.tables e below (T4.setTop (mkF m 68 #[.val (.int p0), .val (.int p1), .val (.long p2), .second, .val (.long p3), .second, .val (.ref a_EQ), .val (.ref a_NOT_EQ), .val (.int 1), .val (.int 0)] [(.long p3), (.long p2), (.int 0), (.ref a_NOT_EQ)])) _
    refine st5 _ ?_
    refine XS.aload X5.here hx rfl (hb hby at_71) rfl rfl ?_
    refine XS.iload X5.here hx rfl (hb hby at_73) rfl ?_
    refine XS.lloadN X5.here hx rfl (hb hby at_75) rfl ?_
    refine XS.lload X5.here hx rfl (hb hby at_76) rfl ?_
    show Steps p.tables e below (T5.setTop (mkF m 78 #[.val (.int p0), .val (.int p1), .val (.long p2), .second, .val (.long p3), .second, .val (.ref a_EQ), .val (.ref a_NOT_EQ), .val (.int 1), .val (.int 0)] [(.long p3), (.long p2), (.int 0), (.ref a_EQ), (.int 1)])) _
    refine st6 _ ?_
    refine XS.icmpNo X6.here hx rfl (hb hby at_81) rfl (by decide) ?_
    refine XS.iconst X6.here hx rfl (hb hby at_84) ?_
    refine XS.goto X6.here hx rfl (pc0 := 85) (pc' := 89) rfl (hb hby at_85) (by decide) (by decide) ?_
    show Steps p.tables e below (T6.setTop (mkF m 89 #[.val (.int p0), .val (.int p1), .val (.long p2), .second, .val (.long p3), .second, .val (.ref a_EQ), .val (.ref a_NOT_EQ), .val (.int 1), .val (.int 0)] [(.int 1)])) _
    exact retN X6 hx (t := .boolean) Bd.returns (by simp) (hb hby at_89) hr
  · show QT n0 _ T6.heap _
    rw [e6]
    exact ⟨rfl, N6⟩
theorem d1_13 : decode method_2_code 13 = .ok (.iload_n 1, 1) := by decide +kernel
theorem d1_14 : decode method_2_code 14 = .ok (.iconst 1, 1) := by decide +kernel
theorem d1_15 : decode method_2_code 15 = .ok (.if_icmp .ne 7, 3) := by decide +kernel
theorem d1_18 : decode method_2_code 18 = .ok (.getstatic 13, 3) := by decide +kernel
theorem d1_21 : decode method_2_code 21 = .ok (.areturn, 1) := by decide +kernel
set_option maxRecDepth 65536 in
set_option maxHeartbeats 40000000 in
theorem rm1_45 (l : Launch) (Z : State) (a0 : Array Value) (hw : ∀ d ∈ tables_1, d.before a0 Z = true) (ws : List Jvm.Cond) (p0 : Int32) (a_NOT_EQ : Addr) (h0 : Heap) (n0 : Nat) (Z0 : n0 ≤ h0.size) (f1 : (p0 &&& (7 : Int32)) = (1 : Int32)) (f2 : S_1 Z h0 (.ref a_NOT_EQ)) :
    MetFree l M_0 (head1 (Jvm.Cond.code M_0 method_2_code 2 (some (.object "com/example/floe/floe/Expression$Operation")) :: ws) R_0_0_0_0) (fun a U => a = #[(.int p0)] ∧ Z.Warmed39 U.vm ∧ U.heap = h0) (fun _ _ _ _ _ => True) (fun _ U o U' => ∃ v L, o = .returned v ∧ QP (some (.ref a_NOT_EQ)) h0 n0 v U'.heap L ∧ FrameEnd U o U' L R_0_0_0_0.cells R_0_0_0_0.slots) := by
  refine MetFree.of_bodySF (plainFor_of_name pn_com_example_floe_floe_OperationNegatePinLaw) hisR ?_
  intro p e s m args below meth c s₁ Bd hml0 hP hK
  obtain ⟨rfl, hZ, hh⟩ := hP
  have hx := Bd.exec
  have hby := Bd.bytes
  have hml : c.maxLocals = 2 := hml0
  have hown : s.vm.findClass "com/example/floe/floe/OperationNegatePinLaw" = some m.cls := findClass_of_methodNamed Bd.named
  have hnm := (name_of_methodNamed Bd.named Bd.method).1
  have X0 : Stand p l e R_0_0_0_0 s m #[(.int p0)] below meth c s₁ [] 0 0 := Stand.of_body Bd
  have e0 : s₁.heap = h0 := by rw [← hh, Bd.state]; rfl
  have N0 := Fr.nil n0
  obtain ⟨T1, X1, e1, st1⟩ := getS2 X0 hx hZ hown (host := "") (Or.inl (tw_37 hw)) Via.refl e0 f2 (g := (mkF m 18 #[.val (.int p0), .val (.int 1)] [])) rfl (hb hby d1_18)
  obtain ⟨fs, hr, hrun, hended, hW, hsame⟩ := X1.leave (v := (some (.ref a_NOT_EQ))) (fun h => by rw [Bd.returns] at h; cases h)
  refine ⟨_, _, castTop (ef1_I m p0) ?_, hrun, hended, _, _, rfl, ?_, ⟨_, rfl⟩, hW, hsame.mono (by decide) (by decide)⟩
  · show Steps p.tables e below (s₁.setTop (mkF m 0 #[.val (.int p0), .unset] [])) _
    refine XS.iloadN X0.here hx rfl (hb hby d1_0) rfl ?_
    refine XS.bipush X0.here hx rfl (hb hby d1_1) ?_
    show Steps p.tables e below (s₁.setTop (mkF m 3 #[.val (.int p0), .unset] [(.int 7), (.int p0)])) _
    refine XS.iand X0.here hx rfl (hb hby d1_3) rfl ?_
    show Steps p.tables e below (s₁.setTop (mkF m 4 #[.val (.int p0), .unset] [(.int (p0 &&& (7 : Int32)))])) _
    rw [f1]
    refine XS.istoreN X0.here hx rfl (hb hby d1_4) rfl (l' := #[.val (.int p0), .val (.int 1)]) rfl ?_
    refine XS.iloadN X0.here hx rfl (hb hby d1_5) rfl ?_
    refine XS.ifYes X0.here hx rfl (pc0 := 6) (pc' := 13) rfl (hb hby d1_6) rfl (by decide) (by decide) (by decide) ?_
    refine XS.iloadN X0.here hx rfl (hb hby d1_13) rfl ?_
    show Steps p.tables e below (s₁.setTop (mkF m 14 #[.val (.int p0), .val (.int 1)] [(.int 1)])) _
    refine XS.iconst X0.here hx rfl (hb hby d1_14) ?_
    refine XS.icmpNo X0.here hx rfl (hb hby d1_15) rfl (by decide) ?_
    show Steps p.tables e below (s₁.setTop (mkF m 18 #[.val (.int p0), .val (.int 1)] [])) _
    refine st1 _ ?_
    show Steps p.tables e below (T1.setTop (mkF m 21 #[.val (.int p0), .val (.int 1)] [(.ref a_NOT_EQ)])) _
    jvm_step X1.here [X1.here.top, hx, (hb hby d1_21), X1.method', Bd.returns, Value.isRef, FieldType.isReference]
    first | (intro acts; rw [hr _ acts rfl rfl rfl]) | rw [hr _ _ rfl rfl rfl]
    exact Steps.refl _
  · show QP (some (.ref a_NOT_EQ)) h0 n0 _ T1.heap _
    rw [e1]
    exact ⟨rfl, N0, rfl⟩
set_option maxRecDepth 65536 in
set_option maxHeartbeats 40000000 in
theorem rm3_46 (l : Launch) (Z : State) (a0 : Array Value) (hw : ∀ d ∈ tables_1, d.before a0 Z = true) (ws : List Jvm.Cond) (a_NOT_EQ : Addr) (h0 : Heap) (n0 : Nat) (Z0 : n0 ≤ h0.size) (f1 : F_0 Z h0 a_NOT_EQ (.int 1)) :
    MetFree l M_1 (head1 (Jvm.Cond.code M_1 jdk_37_method_2_code 1 (some .int) :: ws) R_0_0_0_0) (fun a U => a = #[(.ref a_NOT_EQ)] ∧ Z.Warmed39 U.vm ∧ U.heap = h0) (fun _ _ _ _ _ => True) (fun _ U o U' => ∃ v L, o = .returned v ∧ QP (some (.int 1)) h0 n0 v U'.heap L ∧ FrameEnd U o U' L R_0_0_0_0.cells R_0_0_0_0.slots) := by
  refine MetFree.of_bodySF (plainFor_of_name pn_java_lang_Enum) hisR ?_
  intro p e s m args below meth c s₁ Bd hml0 hP hK
  obtain ⟨rfl, hZ, hh⟩ := hP
  have hx := Bd.exec
  have hby := Bd.bytes
  have hml : c.maxLocals = 1 := hml0
  have hown : s.vm.findClass "java/lang/Enum" = some m.cls := findClass_of_methodNamed Bd.named
  have hnm := (name_of_methodNamed Bd.named Bd.method).1
  have X0 : Stand p l e R_0_0_0_0 s m #[(.ref a_NOT_EQ)] below meth c s₁ [] 0 0 := Stand.of_body Bd
  have e0 : s₁.heap = h0 := by rw [← hh, Bd.state]; rfl
  have N0 := Fr.nil n0
  obtain ⟨T1, X1, e1, st1⟩ := getF X0 hx hZ hown (host := "") (Or.inl (tw_19 hw)) Via.refl e0 f1 (g := (mkF m 1 #[.val (.ref a_NOT_EQ)] [(.ref a_NOT_EQ)])) rfl rfl (hb hby d3_1)
  obtain ⟨fs, hr, hrun, hended, hW, hsame⟩ := X1.leave (v := (some (.int 1))) (fun h => by rw [Bd.returns] at h; cases h)
  refine ⟨_, _, castTop (ef3_R m a_NOT_EQ) ?_, hrun, hended, _, _, rfl, ?_, ⟨_, rfl⟩, hW, hsame.mono (by decide) (by decide)⟩
  · show Steps p.tables e below (s₁.setTop (mkF m 0 #[.val (.ref a_NOT_EQ)] [])) _
    refine XS.aloadN X0.here hx rfl (hb hby d3_0) rfl rfl ?_
    show Steps p.tables e below (s₁.setTop (mkF m 1 #[.val (.ref a_NOT_EQ)] [(.ref a_NOT_EQ)])) _
    refine st1 _ ?_
    show Steps p.tables e below (T1.setTop (mkF m 4 #[.val (.ref a_NOT_EQ)] [(.int 1)])) _
    exact retI X1 hx Bd.returns (hb hby d3_4) hr
  · show QP (some (.int 1)) h0 n0 _ T1.heap _
    rw [e1]
    exact ⟨rfl, N0, rfl⟩
theorem d2_68 : decode prog_13_method_7_code 68 = .ok (.getstatic 3, 3) := by decide +kernel
theorem tw_47 {a0 : Array Value} {Z : State} (hw : ∀ d ∈ tables_1, d.before a0 Z = true) : (Jvm.Cond.fieldLink "com/example/floe/floe/Expression$Operation" (3 : Nat) "com/example/floe/floe/Expression$Operation" "EQ" "Lcom/example/floe/floe/Expression$Operation;").before a0 Z = true := hw _ (List.mem_of_getElem? (i := 47) rfl)
theorem d2_71 : decode prog_13_method_7_code 71 = .ok (.goto 36, 3) := by decide +kernel
set_option maxRecDepth 65536 in
set_option maxHeartbeats 40000000 in
theorem rm2_47 (l : Launch) (Z : State) (a0 : Array Value) (hw : ∀ d ∈ tables_1, d.before a0 Z = true) (ws : List Jvm.Cond) (a_NOT_EQ : Addr) (a_EQ : Addr) (h0 : Heap) (n0 : Nat) (Z0 : n0 ≤ h0.size) (f1 : F_0 Z h0 a_NOT_EQ (.int 1)) (f2 : E_0 Z h0 a_NOT_EQ) (f3 : S_0 Z h0 (.ref a_EQ)) :
    MetFree l M_3 (head1 (Jvm.Cond.code M_3 prog_13_method_7_code 1 (some (.object "com/example/floe/floe/Expression$Operation")) :: ws) R_1_0_0_12) (fun a U => a = #[(.ref a_NOT_EQ)] ∧ Z.Warmed39 U.vm ∧ U.heap = h0) (fun _ _ _ _ _ => True) (fun _ U o U' => ∃ v L, o = .returned v ∧ QP (some (.ref a_EQ)) h0 n0 v U'.heap L ∧ FrameEnd U o U' L R_1_0_0_12.cells R_1_0_0_12.slots) := by
  refine MetFree.of_bodySF (plainFor_of_name pn_com_example_floe_floe_Expression_Operation) hisR ?_
  intro p e s m args below meth c s₁ Bd hml0 hP hK
  obtain ⟨rfl, hZ, hh⟩ := hP
  have hx := Bd.exec
  have hby := Bd.bytes
  have hml : c.maxLocals = 1 := hml0
  have hown : s.vm.findClass "com/example/floe/floe/Expression$Operation" = some m.cls := findClass_of_methodNamed Bd.named
  have hnm := (name_of_methodNamed Bd.named Bd.method).1
  have X0 : Stand p l e R_1_0_0_12 s m #[(.ref a_NOT_EQ)] below meth c s₁ [] 0 0 := Stand.of_body Bd
  have e0 : s₁.heap = h0 := by rw [← hh, Bd.state]; rfl
  have N0 := Fr.nil n0
  -- pc 1: java/lang/Enum.ordinal
  obtain ⟨cq1, kq1, q1a, q1b, q1c⟩ := isOf hZ e0 f2
  obtain ⟨_, _, ⟨T1, L1, k1, n1⟩, -, X1, ⟨Lc1, hQ1, l1, y1, z1⟩, st1⟩ := X0.virtualBackUp hx (x := M_2) (y := M_1) (owner := "java/lang/Enum") hown (mvT hZ (tw_12 hw)) (mvT hZ (tw_13 hw)) (mvT hZ (tw_14 hw)) (by decide) (mvT hZ (tw_16 hw)) (mvT hZ (tw_15 hw)) (backOf (W := 0) (rm3_46 l Z a0 hw [] a_NOT_EQ h0 n0 Z0 f1) hZ (tw_18 hw) (tw_17 hw) (by decide) (by decide)) q1a q1c (g := (mkF m 1 #[.val (.ref a_NOT_EQ)] [(.ref a_NOT_EQ)])) rfl (by rw [hml]; rfl) (Steps.refl _) (argsL := []) (rest := []) (lenOf pd_1 rfl) rfl (by show 2 * 0 + _ ≤ _; exact Nat.le_of_eq rfl) (hb hby d2_1) (fun _ _ => ⟨rfl, e0, (by decide : 0 + 0 ≤ _), (by decide : 0 + 0 ≤ _)⟩)
  dsimp only [Pt.U, Pt.locs, Pt.cells, Pt.slots] at X1 l1 y1 z1 st1 hQ1
  subst l1 y1 z1
  obtain ⟨rfl, Nq1, e1⟩ := hQ1
  have N1 := Fr.app N0 Nq1
  obtain ⟨T2, X2, e2, st2⟩ := getS2 X1 hx hZ hown (host := "") (Or.inl (tw_47 hw)) Via.refl e1 f3 (g := (mkF m 68 #[.val (.ref a_NOT_EQ)] [])) rfl (hb hby d2_68)
  obtain ⟨fs, hr, hrun, hended, hW, hsame⟩ := X2.leave (v := (some (.ref a_EQ))) (fun h => by rw [Bd.returns] at h; cases h)
  refine ⟨_, _, castTop (ef2_R m a_NOT_EQ) ?_, hrun, hended, _, _, rfl, ?_, ⟨_, rfl⟩, hW, hsame.mono (by decide) (by decide)⟩
  · show Steps p.tables e below (s₁.setTop (mkF m 0 #[.val (.ref a_NOT_EQ)] [])) _
    refine XS.aloadN X0.here hx rfl (hb hby d2_0) rfl rfl ?_
    show Steps p.tables e below (s₁.setTop (mkF m 1 #[.val (.ref a_NOT_EQ)] [(.ref a_NOT_EQ)])) _
    refine st1.trans ?_
    show Steps p.tables e below (T1.setTop (mkF m 4 #[.val (.ref a_NOT_EQ)] [(.int 1)])) _
    refine XS.tswIn X1.here hx rfl (pc0 := 4) (pc' := 68) (o := 64) rfl (hb hby d2_4) rfl (by decide) (by decide) (by decide) (by decide) ?_
    show Steps p.tables e below (T1.setTop (mkF m 68 #[.val (.ref a_NOT_EQ)] [])) _
    refine st2 _ ?_
    refine XS.goto X2.here hx rfl (pc0 := 71) (pc' := 107) rfl (hb hby d2_71) (by decide) (by decide) ?_
    show Steps p.tables e below (T2.setTop (mkF m 107 #[.val (.ref a_NOT_EQ)] [(.ref a_EQ)])) _
    jvm_step X2.here [X2.here.top, hx, (hb hby d2_107), X2.method', Bd.returns, Value.isRef, FieldType.isReference]
    first | (intro acts; rw [hr _ acts rfl rfl rfl]) | rw [hr _ _ rfl rfl rfl]
    exact Steps.refl _
  · show QP (some (.ref a_EQ)) h0 n0 _ T2.heap _
    rw [e2]
    exact ⟨rfl, N1, rfl⟩
set_option maxRecDepth 65536 in
set_option maxHeartbeats 40000000 in
theorem rm0_48 (l : Launch) (Z : State) (a0 : Array Value) (hw : ∀ d ∈ tables_1, d.before a0 Z = true) (ws : List Jvm.Cond) (p0 : Int32) (p1 : Int32) (p2 : Int64) (p3 : Int64) (a_NOT_EQ : Addr) (a_EQ : Addr) (a_IS_NULL : Addr) (a_NOT_NULL : Addr) (h0 : Heap) (n0 : Nat) (Z0 : n0 ≤ h0.size) (f1 : (p0 &&& (7 : Int32)) = (1 : Int32)) (f2 : S_1 Z h0 (.ref a_NOT_EQ)) (f3 : F_0 Z h0 a_NOT_EQ (.int 1)) (f4 : E_0 Z h0 a_NOT_EQ) (f5 : S_0 Z h0 (.ref a_EQ)) (f6 : S_2 Z h0 (.ref a_IS_NULL)) (f7 : a_IS_NULL ≠ a_NOT_EQ) (f8 : S_3 Z h0 (.ref a_NOT_NULL)) (f9 : a_NOT_NULL ≠ a_NOT_EQ) (f10 : a_EQ ≠ a_IS_NULL) (f11 : a_EQ ≠ a_NOT_NULL) (f12 : E_0 Z h0 a_EQ) (f13 : (lcmpW p2 p3) = (-1 : Int32)) (f14 : a_EQ ≠ a_NOT_EQ) :
    MetFree l x (head1 (Jvm.Cond.code x code maxLocals ret :: ws) room_1) (fun a U => a = #[(.int p0), (.int p1), (.long p2), (.long p3)] ∧ Z.Warmed39 U.vm ∧ U.heap = h0) (fun _ _ _ _ _ => True) (fun _ U o U' => ∃ v L, o = .returned v ∧ QT n0 v U'.heap L ∧ FrameEnd U o U' L room_1.cells room_1.slots) := by
  refine MetFree.of_bodySF (plainFor_of_name pn_com_example_floe_floe_OperationNegatePinLaw) hisR ?_
  intro p e s m args below meth c s₁ Bd hml0 hP hK
  obtain ⟨rfl, hZ, hh⟩ := hP
  have hx := Bd.exec
  have hby := Bd.bytes
  have hml : c.maxLocals = 10 := hml0
  have hown : s.vm.findClass "com/example/floe/floe/OperationNegatePinLaw" = some m.cls := findClass_of_methodNamed Bd.named
  have hnm := (name_of_methodNamed Bd.named Bd.method).1
  have X0 : Stand p l e room_1 s m #[(.int p0), (.int p1), (.long p2), (.long p3)] below meth c s₁ [] 0 0 := Stand.of_body Bd
  have e0 : s₁.heap = h0 := by rw [← hh, Bd.state]; rfl
  have N0 := Fr.nil n0
  -- pc 1: com/example/floe/floe/OperationNegatePinLaw.pick
  obtain ⟨_, _, ⟨T1, L1, k1, n1⟩, -, X1, ⟨Lc1, hQ1, l1, y1, z1⟩, st1⟩ := Jvm.LawKit.callS X0 hx (y := M_0) hown (mvT hZ (tw_0 hw)) (mvT hZ (tw_1 hw)) (mvT hZ (tw_2 hw)) (mvT hZ (tw_3 hw)) (by decide) (backOf (W := 0) (rm1_45 l Z a0 hw [] p0 a_NOT_EQ h0 n0 Z0 f1 f2) hZ (tw_3 hw) (tw_2 hw) (by decide) (by decide)) (g := (mkF m 1 #[.val (.int p0), .val (.int p1), .val (.long p2), .second, .val (.long p3), .second, .unset, .unset, .unset, .unset] [(.int p0)])) rfl (by rw [hml]; rfl) (argsL := [(.int p0)]) (rest := []) (lenOf pd_0 rfl) rfl (by show 2 * 0 + _ ≤ _; exact Nat.le_of_eq rfl) (hb hby at_1) (fun _ _ => ⟨rfl, e0, (by decide : 0 + 0 ≤ _), (by decide : 0 + 0 ≤ _)⟩)
  dsimp only [Pt.U, Pt.locs, Pt.cells, Pt.slots] at X1 l1 y1 z1 st1 hQ1
  subst l1 y1 z1
  obtain ⟨rfl, Nq1, e1⟩ := hQ1
  have N1 := Fr.app N0 Nq1
  -- pc 8: com/example/floe/floe/Expression$Operation.negate
  obtain ⟨cq2, kq2, q2a, q2b, q2c⟩ := isOf hZ e1 f4
  obtain ⟨_, _, ⟨T2, L2, k2, n2⟩, -, X2, ⟨Lc2, hQ2, l2, y2, z2⟩, st2⟩ := X1.virtualBack hx (y := M_3) (z := M_3) hown (mvT hZ (tw_7 hw)) (mvT hZ (tw_8 hw)) (notFace_of_selects (args := #[]) (mvT hZ (tw_10 hw))) (mvT hZ (tw_10 hw)) (mvT hZ (tw_9 hw)) (by decide) (backOf (W := 0) (rm2_47 l Z a0 hw [] a_NOT_EQ a_EQ h0 n0 Z0 f3 f4 f5) hZ (tw_11 hw) (tw_5 hw) (by decide) (by decide)) q2a q2c (g := (mkF m 8 #[.val (.int p0), .val (.int p1), .val (.long p2), .second, .val (.long p3), .second, .val (.ref a_NOT_EQ), .unset, .unset, .unset] [(.ref a_NOT_EQ)])) rfl (by rw [hml]; rfl) (Steps.refl _) (argsL := []) (rest := []) (lenOf pd_2 rfl) rfl (by show 2 * 0 + _ ≤ _; exact Nat.le_of_eq rfl) (hb hby at_8) (fun _ _ => ⟨rfl, e1, (by decide : 0 + 0 ≤ _), (by decide : 0 + 0 ≤ _)⟩)
  dsimp only [Pt.U, Pt.locs, Pt.cells, Pt.slots] at X2 l2 y2 z2 st2 hQ2
  subst l2 y2 z2
  obtain ⟨rfl, Nq2, e2⟩ := hQ2
  have N2 := Fr.app N1 Nq2
  -- pc 22: com/example/floe/floe/Expression$Operation.compares
  obtain ⟨cq3, kq3, q3a, q3b, q3c⟩ := isOf hZ e2 f4
  obtain ⟨_, _, ⟨T3, L3, k3, n3⟩, -, X3, ⟨Lc3, hQ3, l3, y3, z3⟩, st3⟩ := X2.virtualBack hx (y := M_4) (z := M_4) hown (mvT hZ (tw_23 hw)) (mvT hZ (tw_24 hw)) (notFace_of_selects (args := #[]) (mvT hZ (tw_26 hw))) (mvT hZ (tw_26 hw)) (mvT hZ (tw_25 hw)) (by decide) (backOf (W := 0) (rm4_35 l Z a0 hw [] a_NOT_EQ a_IS_NULL a_NOT_NULL h0 n0 Z0 f6 f7 f8 f9) hZ (tw_27 hw) (tw_5 hw) (by decide) (by decide)) q3a q3c (g := (mkF m 22 #[.val (.int p0), .val (.int p1), .val (.long p2), .second, .val (.long p3), .second, .val (.ref a_NOT_EQ), .val (.ref a_EQ), .unset, .unset] [(.ref a_NOT_EQ)])) rfl (by rw [hml]; rfl) (Steps.refl _) (argsL := []) (rest := []) (lenOf pd_3 rfl) rfl (by show 2 * 0 + _ ≤ _; exact Nat.le_of_eq rfl) (hb hby at_22) (fun _ _ => ⟨rfl, e2, (by decide : 0 + 0 ≤ _), (by decide : 0 + 0 ≤ _)⟩)
  dsimp only [Pt.U, Pt.locs, Pt.cells, Pt.slots] at X3 l3 y3 z3 st3 hQ3
  subst l3 y3 z3
  obtain ⟨rfl, Nq3, e3⟩ := hQ3
  have N3 := Fr.app N2 Nq3
  -- pc 51: com/example/floe/floe/Expression$Operation.compares
  obtain ⟨cq4, kq4, q4a, q4b, q4c⟩ := isOf hZ e3 f12
  obtain ⟨_, _, ⟨T4, L4, k4, n4⟩, -, X4, ⟨Lc4, hQ4, l4, y4, z4⟩, st4⟩ := X3.virtualBack hx (y := M_4) (z := M_4) hown (mvT hZ (tw_23 hw)) (mvT hZ (tw_24 hw)) (notFace_of_selects (args := #[]) (mvT hZ (tw_26 hw))) (mvT hZ (tw_26 hw)) (mvT hZ (tw_25 hw)) (by decide) (backOf (W := 0) (rm4_34 l Z a0 hw [] a_EQ a_IS_NULL a_NOT_NULL h0 n0 Z0 f6 f10 f8 f11) hZ (tw_27 hw) (tw_5 hw) (by decide) (by decide)) q4a q4c (g := (mkF m 51 #[.val (.int p0), .val (.int p1), .val (.long p2), .second, .val (.long p3), .second, .val (.ref a_NOT_EQ), .val (.ref a_EQ), .val (.int 1), .val (.int 0)] [(.ref a_EQ)])) rfl (by rw [hml]; rfl) (Steps.refl _) (argsL := []) (rest := []) (lenOf pd_3 rfl) rfl (by show 2 * 0 + _ ≤ _; exact Nat.le_of_eq rfl) (hb hby at_51) (fun _ _ => ⟨rfl, e3, (by decide : 0 + 0 ≤ _), (by decide : 0 + 0 ≤ _)⟩)
  dsimp only [Pt.U, Pt.locs, Pt.cells, Pt.slots] at X4 l4 y4 z4 st4 hQ4
  subst l4 y4 z4
  obtain ⟨rfl, Nq4, e4⟩ := hQ4
  have N4 := Fr.app N3 Nq4
  -- pc 68: com/example/floe/floe/OperationNegatePinLaw.holds
  obtain ⟨_, _, ⟨T5, L5, k5, n5⟩, -, X5, ⟨Lc5, hQ5, l5, y5, z5⟩, st5⟩ := Jvm.LawKit.callS X4 hx (y := M_5) hown (mvT hZ (tw_32 hw)) (mvT hZ (tw_33 hw)) (mvT hZ (tw_2 hw)) (mvT hZ (tw_34 hw)) (by decide) (backOf (W := 0) (rm5_37 l Z a0 hw [] a_EQ p2 p3 a_IS_NULL a_NOT_NULL h0 n0 Z0 f6 f10 f8 f11 f5 f13) hZ (tw_34 hw) (tw_2 hw) (by decide) (by decide)) (g := (mkF m 68 #[.val (.int p0), .val (.int p1), .val (.long p2), .second, .val (.long p3), .second, .val (.ref a_NOT_EQ), .val (.ref a_EQ), .val (.int 1), .val (.int 0)] [(.long p3), (.long p2), (.int 0), (.ref a_EQ)])) rfl (by rw [hml]; rfl) (argsL := [(.ref a_EQ), (.int 0), (.long p2), (.long p3)]) (rest := []) (lenOf pd_4 rfl) rfl (by show 2 * 0 + _ ≤ _; exact Nat.le_of_eq rfl) (hb hby at_68) (fun _ _ => ⟨rfl, e4, (by decide : 0 + 0 ≤ _), (by decide : 0 + 0 ≤ _)⟩)
  dsimp only [Pt.U, Pt.locs, Pt.cells, Pt.slots] at X5 l5 y5 z5 st5 hQ5
  subst l5 y5 z5
  obtain ⟨rfl, Nq5, e5⟩ := hQ5
  have N5 := Fr.app N4 Nq5
  -- pc 78: com/example/floe/floe/OperationNegatePinLaw.holds
  obtain ⟨_, _, ⟨T6, L6, k6, n6⟩, -, X6, ⟨Lc6, hQ6, l6, y6, z6⟩, st6⟩ := Jvm.LawKit.callS X5 hx (y := M_5) hown (mvT hZ (tw_32 hw)) (mvT hZ (tw_33 hw)) (mvT hZ (tw_2 hw)) (mvT hZ (tw_34 hw)) (by decide) (backOf (W := 1) (rm5_36 l Z a0 hw [] a_NOT_EQ p2 p3 a_IS_NULL a_NOT_NULL a_EQ h0 n0 Z0 f6 (Ne.symm f7) f8 (Ne.symm f9) f5 f14 f2 f13) hZ (tw_34 hw) (tw_2 hw) (by decide) (by decide)) (g := (mkF m 78 #[.val (.int p0), .val (.int p1), .val (.long p2), .second, .val (.long p3), .second, .val (.ref a_NOT_EQ), .val (.ref a_EQ), .val (.int 1), .val (.int 0)] [(.long p3), (.long p2), (.int 0), (.ref a_NOT_EQ), (.int 0)])) rfl (by rw [hml]; rfl) (argsL := [(.ref a_NOT_EQ), (.int 0), (.long p2), (.long p3)]) (rest := [(.int 0)]) (lenOf pd_4 rfl) rfl (by show 2 * 0 + _ ≤ _; exact Nat.le_of_eq rfl) (hb hby at_78) (fun _ _ => ⟨rfl, e5, (by decide : 0 + 0 ≤ _), (by decide : 0 + 0 ≤ _)⟩)
  dsimp only [Pt.U, Pt.locs, Pt.cells, Pt.slots] at X6 l6 y6 z6 st6 hQ6
  subst l6 y6 z6
  obtain ⟨rfl, Nq6, e6⟩ := hQ6
  have N6 := Fr.app N5 Nq6
  obtain ⟨fs, hr, hrun, hended, hW, hsame⟩ := X6.leave (v := (some (.int 1))) (fun h => by rw [Bd.returns] at h; cases h)
  refine ⟨_, _, castTop (ef0_IIJJ m p0 p1 p2 p3) ?_, hrun, hended, _, _, rfl, ?_, ⟨_, rfl⟩, hW, hsame.mono (by decide) (by decide)⟩
  · show Steps p.tables e below (s₁.setTop (mkF m 0 #[.val (.int p0), .val (.int p1), .val (.long p2), .second, .val (.long p3), .second, .unset, .unset, .unset, .unset] [])) _
    refine XS.iloadN X0.here hx rfl (hb hby at_0) rfl ?_
    show Steps p.tables e below (s₁.setTop (mkF m 1 #[.val (.int p0), .val (.int p1), .val (.long p2), .second, .val (.long p3), .second, .unset, .unset, .unset, .unset] [(.int p0)])) _
    refine st1 _ ?_
    refine XS.astore X1.here hx rfl (hb hby at_4) rfl rfl (l' := #[.val (.int p0), .val (.int p1), .val (.long p2), .second, .val (.long p3), .second, .val (.ref a_NOT_EQ), .unset, .unset, .unset]) rfl ?_
    refine XS.aload X1.here hx rfl (hb hby at_6) rfl rfl ?_
    show Steps p.tables e below (T1.setTop (mkF m 8 #[.val (.int p0), .val (.int p1), .val (.long p2), .second, .val (.long p3), .second, .val (.ref a_NOT_EQ), .unset, .unset, .unset] [(.ref a_NOT_EQ)])) _
    refine st2.trans ?_
    refine XS.astore X2.here hx rfl (hb hby at_11) rfl rfl (l' := #[.val (.int p0), .val (.int p1), .val (.long p2), .second, .val (.long p3), .second, .val (.ref a_NOT_EQ), .val (.ref a_EQ), .unset, .unset]) rfl ?_
    refine XS.aload X2.here hx rfl (hb hby at_13) rfl rfl ?_
    refine XS.ifnonnullYes X2.here hx rfl (pc0 := 15) (pc' := 20) rfl (hb hby at_15) rfl (by decide) (by decide) ?_
    refine XS.aload X2.here hx rfl (hb hby at_20) rfl rfl ?_
    show Steps p.tables e below (T2.setTop (mkF m 22 #[.val (.int p0), .val (.int p1), .val (.long p2), .second, .val (.long p3), .second, .val (.ref a_NOT_EQ), .val (.ref a_EQ), .unset, .unset] [(.ref a_NOT_EQ)])) _
    refine st3.trans ?_
    refine XS.istore X3.here hx rfl (hb hby at_25) rfl (l' := #[.val (.int p0), .val (.int p1), .val (.long p2), .second, .val (.long p3), .second, .val (.ref a_NOT_EQ), .val (.ref a_EQ), .val (.int 1), .unset]) rfl ?_
    refine XS.iload X3.here hx rfl (hb hby at_27) rfl ?_
    refine XS.ifNo X3.here hx rfl (hb hby at_29) rfl (by decide) ?_
    refine XS.iconst X3.here hx rfl (hb hby at_32) ?_
    show Steps p.tables e below (T3.setTop (mkF m 33 #[.val (.int p0), .val (.int p1), .val (.long p2), .second, .val (.long p3), .second, .val (.ref a_NOT_EQ), .val (.ref a_EQ), .val (.int 1), .unset] [(.int 0)])) _
    refine XS.goto X3.here hx rfl (pc0 := 33) (pc' := 47) rfl (hb hby at_33) (by decide) (by decide) ?_
    refine XS.istore X3.here hx rfl (hb hby at_47) rfl (l' := #[.val (.int p0), .val (.int p1), .val (.long p2), .second, .val (.long p3), .second, .val (.ref a_NOT_EQ), .val (.ref a_EQ), .val (.int 1), .val (.int 0)]) rfl ?_
    refine XS.aload X3.here hx rfl (hb hby at_49) rfl rfl ?_
    show Steps p.tables e below (T3.setTop (mkF m 51 #[.val (.int p0), .val (.int p1), .val (.long p2), .second, .val (.long p3), .second, .val (.ref a_NOT_EQ), .val (.ref a_EQ), .val (.int 1), .val (.int 0)] [(.ref a_EQ)])) _
    refine st4.trans ?_
    refine XS.iload X4.here hx rfl (hb hby at_54) rfl ?_
    refine XS.icmpYes X4.here hx rfl (pc0 := 56) (pc' := 61) rfl (hb hby at_56) rfl (by decide) (by decide) (by decide) ?_
    refine XS.aload X4.here hx rfl (hb hby at_61) rfl rfl ?_
    refine XS.iload X4.here hx rfl (hb hby at_63) rfl ?_
    show Steps p.tables e below (T4.setTop (mkF m 65 #[.val (.int p0), .val (.int p1), .val (.long p2), .second, .val (.long p3), .second, .val (.ref a_NOT_EQ), .val (.ref a_EQ), .val (.int 1), .val (.int 0)] [(.int 0), (.ref a_EQ)])) _
    refine XS.lloadN X4.here hx rfl (hb hby at_65) rfl ?_
    refine XS.lload X4.here hx rfl (hb hby at_66) rfl ?_
    show Steps p.tables e below (T4.setTop (mkF m 68 #[.val (.int p0), .val (.int p1), .val (.long p2), .second, .val (.long p3), .second, .val (.ref a_NOT_EQ), .val (.ref a_EQ), .val (.int 1), .val (.int 0)] [(.long p3), (.long p2), (.int 0), (.ref a_EQ)])) _
    refine st5 _ ?_
    refine XS.aload X5.here hx rfl (hb hby at_71) rfl rfl ?_
    refine XS.iload X5.here hx rfl (hb hby at_73) rfl ?_
    refine XS.lloadN X5.here hx rfl (hb hby at_75) rfl ?_
    refine XS.lload X5.here hx rfl (hb hby at_76) rfl ?_
    show Steps p.tables e below (T5.setTop (mkF m 78 #[.val (.int p0), .val (.int p1), .val (.long p2), .second, .val (.long p3), .second, .val (.ref a_NOT_EQ), .val (.ref a_EQ), .val (.int 1), .val (.int 0)] [(.long p3), (.long p2), (.int 0), (.ref a_NOT_EQ), (.int 0)])) _
    refine st6 _ ?_
    refine XS.icmpNo X6.here hx rfl (hb hby at_81) rfl (by decide) ?_
    refine XS.iconst X6.here hx rfl (hb hby at_84) ?_
    refine XS.goto X6.here hx rfl (pc0 := 85) (pc' := 89) rfl (hb hby at_85) (by decide) (by decide) ?_
    show Steps p.tables e below (T6.setTop (mkF m 89 #[.val (.int p0), .val (.int p1), .val (.long p2), .second, .val (.long p3), .second, .val (.ref a_NOT_EQ), .val (.ref a_EQ), .val (.int 1), .val (.int 0)] [(.int 1)])) _
    exact retN X6 hx (t := .boolean) Bd.returns (by simp) (hb hby at_89) hr
  · show QT n0 _ T6.heap _
    rw [e6]
    exact ⟨rfl, N6⟩
set_option maxRecDepth 65536 in
set_option maxHeartbeats 40000000 in
theorem rm0_49 (l : Launch) (Z : State) (a0 : Array Value) (hw : ∀ d ∈ tables_1, d.before a0 Z = true) (ws : List Jvm.Cond) (p0 : Int32) (p1 : Int32) (p2 : Int64) (p3 : Int64) (a_NOT_EQ : Addr) (a_EQ : Addr) (a_IS_NULL : Addr) (a_NOT_NULL : Addr) (h0 : Heap) (n0 : Nat) (Z0 : n0 ≤ h0.size) (f1 : (p0 &&& (7 : Int32)) = (1 : Int32)) (f2 : S_1 Z h0 (.ref a_NOT_EQ)) (f3 : F_0 Z h0 a_NOT_EQ (.int 1)) (f4 : E_0 Z h0 a_NOT_EQ) (f5 : S_0 Z h0 (.ref a_EQ)) (f6 : S_2 Z h0 (.ref a_IS_NULL)) (f7 : a_IS_NULL ≠ a_NOT_EQ) (f8 : S_3 Z h0 (.ref a_NOT_NULL)) (f9 : a_NOT_NULL ≠ a_NOT_EQ) (f10 : a_EQ ≠ a_IS_NULL) (f11 : a_EQ ≠ a_NOT_NULL) (f12 : E_0 Z h0 a_EQ) (f13 : (lcmpW p2 p3) = (0 : Int32)) (f14 : a_EQ ≠ a_NOT_EQ) :
    MetFree l x (head1 (Jvm.Cond.code x code maxLocals ret :: ws) room_1) (fun a U => a = #[(.int p0), (.int p1), (.long p2), (.long p3)] ∧ Z.Warmed39 U.vm ∧ U.heap = h0) (fun _ _ _ _ _ => True) (fun _ U o U' => ∃ v L, o = .returned v ∧ QT n0 v U'.heap L ∧ FrameEnd U o U' L room_1.cells room_1.slots) := by
  refine MetFree.of_bodySF (plainFor_of_name pn_com_example_floe_floe_OperationNegatePinLaw) hisR ?_
  intro p e s m args below meth c s₁ Bd hml0 hP hK
  obtain ⟨rfl, hZ, hh⟩ := hP
  have hx := Bd.exec
  have hby := Bd.bytes
  have hml : c.maxLocals = 10 := hml0
  have hown : s.vm.findClass "com/example/floe/floe/OperationNegatePinLaw" = some m.cls := findClass_of_methodNamed Bd.named
  have hnm := (name_of_methodNamed Bd.named Bd.method).1
  have X0 : Stand p l e room_1 s m #[(.int p0), (.int p1), (.long p2), (.long p3)] below meth c s₁ [] 0 0 := Stand.of_body Bd
  have e0 : s₁.heap = h0 := by rw [← hh, Bd.state]; rfl
  have N0 := Fr.nil n0
  -- pc 1: com/example/floe/floe/OperationNegatePinLaw.pick
  obtain ⟨_, _, ⟨T1, L1, k1, n1⟩, -, X1, ⟨Lc1, hQ1, l1, y1, z1⟩, st1⟩ := Jvm.LawKit.callS X0 hx (y := M_0) hown (mvT hZ (tw_0 hw)) (mvT hZ (tw_1 hw)) (mvT hZ (tw_2 hw)) (mvT hZ (tw_3 hw)) (by decide) (backOf (W := 0) (rm1_45 l Z a0 hw [] p0 a_NOT_EQ h0 n0 Z0 f1 f2) hZ (tw_3 hw) (tw_2 hw) (by decide) (by decide)) (g := (mkF m 1 #[.val (.int p0), .val (.int p1), .val (.long p2), .second, .val (.long p3), .second, .unset, .unset, .unset, .unset] [(.int p0)])) rfl (by rw [hml]; rfl) (argsL := [(.int p0)]) (rest := []) (lenOf pd_0 rfl) rfl (by show 2 * 0 + _ ≤ _; exact Nat.le_of_eq rfl) (hb hby at_1) (fun _ _ => ⟨rfl, e0, (by decide : 0 + 0 ≤ _), (by decide : 0 + 0 ≤ _)⟩)
  dsimp only [Pt.U, Pt.locs, Pt.cells, Pt.slots] at X1 l1 y1 z1 st1 hQ1
  subst l1 y1 z1
  obtain ⟨rfl, Nq1, e1⟩ := hQ1
  have N1 := Fr.app N0 Nq1
  -- pc 8: com/example/floe/floe/Expression$Operation.negate
  obtain ⟨cq2, kq2, q2a, q2b, q2c⟩ := isOf hZ e1 f4
  obtain ⟨_, _, ⟨T2, L2, k2, n2⟩, -, X2, ⟨Lc2, hQ2, l2, y2, z2⟩, st2⟩ := X1.virtualBack hx (y := M_3) (z := M_3) hown (mvT hZ (tw_7 hw)) (mvT hZ (tw_8 hw)) (notFace_of_selects (args := #[]) (mvT hZ (tw_10 hw))) (mvT hZ (tw_10 hw)) (mvT hZ (tw_9 hw)) (by decide) (backOf (W := 0) (rm2_47 l Z a0 hw [] a_NOT_EQ a_EQ h0 n0 Z0 f3 f4 f5) hZ (tw_11 hw) (tw_5 hw) (by decide) (by decide)) q2a q2c (g := (mkF m 8 #[.val (.int p0), .val (.int p1), .val (.long p2), .second, .val (.long p3), .second, .val (.ref a_NOT_EQ), .unset, .unset, .unset] [(.ref a_NOT_EQ)])) rfl (by rw [hml]; rfl) (Steps.refl _) (argsL := []) (rest := []) (lenOf pd_2 rfl) rfl (by show 2 * 0 + _ ≤ _; exact Nat.le_of_eq rfl) (hb hby at_8) (fun _ _ => ⟨rfl, e1, (by decide : 0 + 0 ≤ _), (by decide : 0 + 0 ≤ _)⟩)
  dsimp only [Pt.U, Pt.locs, Pt.cells, Pt.slots] at X2 l2 y2 z2 st2 hQ2
  subst l2 y2 z2
  obtain ⟨rfl, Nq2, e2⟩ := hQ2
  have N2 := Fr.app N1 Nq2
  -- pc 22: com/example/floe/floe/Expression$Operation.compares
  obtain ⟨cq3, kq3, q3a, q3b, q3c⟩ := isOf hZ e2 f4
  obtain ⟨_, _, ⟨T3, L3, k3, n3⟩, -, X3, ⟨Lc3, hQ3, l3, y3, z3⟩, st3⟩ := X2.virtualBack hx (y := M_4) (z := M_4) hown (mvT hZ (tw_23 hw)) (mvT hZ (tw_24 hw)) (notFace_of_selects (args := #[]) (mvT hZ (tw_26 hw))) (mvT hZ (tw_26 hw)) (mvT hZ (tw_25 hw)) (by decide) (backOf (W := 0) (rm4_35 l Z a0 hw [] a_NOT_EQ a_IS_NULL a_NOT_NULL h0 n0 Z0 f6 f7 f8 f9) hZ (tw_27 hw) (tw_5 hw) (by decide) (by decide)) q3a q3c (g := (mkF m 22 #[.val (.int p0), .val (.int p1), .val (.long p2), .second, .val (.long p3), .second, .val (.ref a_NOT_EQ), .val (.ref a_EQ), .unset, .unset] [(.ref a_NOT_EQ)])) rfl (by rw [hml]; rfl) (Steps.refl _) (argsL := []) (rest := []) (lenOf pd_3 rfl) rfl (by show 2 * 0 + _ ≤ _; exact Nat.le_of_eq rfl) (hb hby at_22) (fun _ _ => ⟨rfl, e2, (by decide : 0 + 0 ≤ _), (by decide : 0 + 0 ≤ _)⟩)
  dsimp only [Pt.U, Pt.locs, Pt.cells, Pt.slots] at X3 l3 y3 z3 st3 hQ3
  subst l3 y3 z3
  obtain ⟨rfl, Nq3, e3⟩ := hQ3
  have N3 := Fr.app N2 Nq3
  -- pc 51: com/example/floe/floe/Expression$Operation.compares
  obtain ⟨cq4, kq4, q4a, q4b, q4c⟩ := isOf hZ e3 f12
  obtain ⟨_, _, ⟨T4, L4, k4, n4⟩, -, X4, ⟨Lc4, hQ4, l4, y4, z4⟩, st4⟩ := X3.virtualBack hx (y := M_4) (z := M_4) hown (mvT hZ (tw_23 hw)) (mvT hZ (tw_24 hw)) (notFace_of_selects (args := #[]) (mvT hZ (tw_26 hw))) (mvT hZ (tw_26 hw)) (mvT hZ (tw_25 hw)) (by decide) (backOf (W := 0) (rm4_34 l Z a0 hw [] a_EQ a_IS_NULL a_NOT_NULL h0 n0 Z0 f6 f10 f8 f11) hZ (tw_27 hw) (tw_5 hw) (by decide) (by decide)) q4a q4c (g := (mkF m 51 #[.val (.int p0), .val (.int p1), .val (.long p2), .second, .val (.long p3), .second, .val (.ref a_NOT_EQ), .val (.ref a_EQ), .val (.int 1), .val (.int 0)] [(.ref a_EQ)])) rfl (by rw [hml]; rfl) (Steps.refl _) (argsL := []) (rest := []) (lenOf pd_3 rfl) rfl (by show 2 * 0 + _ ≤ _; exact Nat.le_of_eq rfl) (hb hby at_51) (fun _ _ => ⟨rfl, e3, (by decide : 0 + 0 ≤ _), (by decide : 0 + 0 ≤ _)⟩)
  dsimp only [Pt.U, Pt.locs, Pt.cells, Pt.slots] at X4 l4 y4 z4 st4 hQ4
  subst l4 y4 z4
  obtain ⟨rfl, Nq4, e4⟩ := hQ4
  have N4 := Fr.app N3 Nq4
  -- pc 68: com/example/floe/floe/OperationNegatePinLaw.holds
  obtain ⟨_, _, ⟨T5, L5, k5, n5⟩, -, X5, ⟨Lc5, hQ5, l5, y5, z5⟩, st5⟩ := Jvm.LawKit.callS X4 hx (y := M_5) hown (mvT hZ (tw_32 hw)) (mvT hZ (tw_33 hw)) (mvT hZ (tw_2 hw)) (mvT hZ (tw_34 hw)) (by decide) (backOf (W := 0) (rm5_40 l Z a0 hw [] a_EQ p2 p3 a_IS_NULL a_NOT_NULL h0 n0 Z0 f6 f10 f8 f11 f5 f13) hZ (tw_34 hw) (tw_2 hw) (by decide) (by decide)) (g := (mkF m 68 #[.val (.int p0), .val (.int p1), .val (.long p2), .second, .val (.long p3), .second, .val (.ref a_NOT_EQ), .val (.ref a_EQ), .val (.int 1), .val (.int 0)] [(.long p3), (.long p2), (.int 0), (.ref a_EQ)])) rfl (by rw [hml]; rfl) (argsL := [(.ref a_EQ), (.int 0), (.long p2), (.long p3)]) (rest := []) (lenOf pd_4 rfl) rfl (by show 2 * 0 + _ ≤ _; exact Nat.le_of_eq rfl) (hb hby at_68) (fun _ _ => ⟨rfl, e4, (by decide : 0 + 0 ≤ _), (by decide : 0 + 0 ≤ _)⟩)
  dsimp only [Pt.U, Pt.locs, Pt.cells, Pt.slots] at X5 l5 y5 z5 st5 hQ5
  subst l5 y5 z5
  obtain ⟨rfl, Nq5, e5⟩ := hQ5
  have N5 := Fr.app N4 Nq5
  -- pc 78: com/example/floe/floe/OperationNegatePinLaw.holds
  obtain ⟨_, _, ⟨T6, L6, k6, n6⟩, -, X6, ⟨Lc6, hQ6, l6, y6, z6⟩, st6⟩ := Jvm.LawKit.callS X5 hx (y := M_5) hown (mvT hZ (tw_32 hw)) (mvT hZ (tw_33 hw)) (mvT hZ (tw_2 hw)) (mvT hZ (tw_34 hw)) (by decide) (backOf (W := 1) (rm5_39 l Z a0 hw [] a_NOT_EQ p2 p3 a_IS_NULL a_NOT_NULL a_EQ h0 n0 Z0 f6 (Ne.symm f7) f8 (Ne.symm f9) f5 f14 f2 f13) hZ (tw_34 hw) (tw_2 hw) (by decide) (by decide)) (g := (mkF m 78 #[.val (.int p0), .val (.int p1), .val (.long p2), .second, .val (.long p3), .second, .val (.ref a_NOT_EQ), .val (.ref a_EQ), .val (.int 1), .val (.int 0)] [(.long p3), (.long p2), (.int 0), (.ref a_NOT_EQ), (.int 1)])) rfl (by rw [hml]; rfl) (argsL := [(.ref a_NOT_EQ), (.int 0), (.long p2), (.long p3)]) (rest := [(.int 1)]) (lenOf pd_4 rfl) rfl (by show 2 * 0 + _ ≤ _; exact Nat.le_of_eq rfl) (hb hby at_78) (fun _ _ => ⟨rfl, e5, (by decide : 0 + 0 ≤ _), (by decide : 0 + 0 ≤ _)⟩)
  dsimp only [Pt.U, Pt.locs, Pt.cells, Pt.slots] at X6 l6 y6 z6 st6 hQ6
  subst l6 y6 z6
  obtain ⟨rfl, Nq6, e6⟩ := hQ6
  have N6 := Fr.app N5 Nq6
  obtain ⟨fs, hr, hrun, hended, hW, hsame⟩ := X6.leave (v := (some (.int 1))) (fun h => by rw [Bd.returns] at h; cases h)
  refine ⟨_, _, castTop (ef0_IIJJ m p0 p1 p2 p3) ?_, hrun, hended, _, _, rfl, ?_, ⟨_, rfl⟩, hW, hsame.mono (by decide) (by decide)⟩
  · show Steps p.tables e below (s₁.setTop (mkF m 0 #[.val (.int p0), .val (.int p1), .val (.long p2), .second, .val (.long p3), .second, .unset, .unset, .unset, .unset] [])) _
    refine XS.iloadN X0.here hx rfl (hb hby at_0) rfl ?_
    show Steps p.tables e below (s₁.setTop (mkF m 1 #[.val (.int p0), .val (.int p1), .val (.long p2), .second, .val (.long p3), .second, .unset, .unset, .unset, .unset] [(.int p0)])) _
    refine st1 _ ?_
    refine XS.astore X1.here hx rfl (hb hby at_4) rfl rfl (l' := #[.val (.int p0), .val (.int p1), .val (.long p2), .second, .val (.long p3), .second, .val (.ref a_NOT_EQ), .unset, .unset, .unset]) rfl ?_
    refine XS.aload X1.here hx rfl (hb hby at_6) rfl rfl ?_
    show Steps p.tables e below (T1.setTop (mkF m 8 #[.val (.int p0), .val (.int p1), .val (.long p2), .second, .val (.long p3), .second, .val (.ref a_NOT_EQ), .unset, .unset, .unset] [(.ref a_NOT_EQ)])) _
    refine st2.trans ?_
    refine XS.astore X2.here hx rfl (hb hby at_11) rfl rfl (l' := #[.val (.int p0), .val (.int p1), .val (.long p2), .second, .val (.long p3), .second, .val (.ref a_NOT_EQ), .val (.ref a_EQ), .unset, .unset]) rfl ?_
    refine XS.aload X2.here hx rfl (hb hby at_13) rfl rfl ?_
    refine XS.ifnonnullYes X2.here hx rfl (pc0 := 15) (pc' := 20) rfl (hb hby at_15) rfl (by decide) (by decide) ?_
    refine XS.aload X2.here hx rfl (hb hby at_20) rfl rfl ?_
    show Steps p.tables e below (T2.setTop (mkF m 22 #[.val (.int p0), .val (.int p1), .val (.long p2), .second, .val (.long p3), .second, .val (.ref a_NOT_EQ), .val (.ref a_EQ), .unset, .unset] [(.ref a_NOT_EQ)])) _
    refine st3.trans ?_
    refine XS.istore X3.here hx rfl (hb hby at_25) rfl (l' := #[.val (.int p0), .val (.int p1), .val (.long p2), .second, .val (.long p3), .second, .val (.ref a_NOT_EQ), .val (.ref a_EQ), .val (.int 1), .unset]) rfl ?_
    refine XS.iload X3.here hx rfl (hb hby at_27) rfl ?_
    refine XS.ifNo X3.here hx rfl (hb hby at_29) rfl (by decide) ?_
    refine XS.iconst X3.here hx rfl (hb hby at_32) ?_
    show Steps p.tables e below (T3.setTop (mkF m 33 #[.val (.int p0), .val (.int p1), .val (.long p2), .second, .val (.long p3), .second, .val (.ref a_NOT_EQ), .val (.ref a_EQ), .val (.int 1), .unset] [(.int 0)])) _
    refine XS.goto X3.here hx rfl (pc0 := 33) (pc' := 47) rfl (hb hby at_33) (by decide) (by decide) ?_
    refine XS.istore X3.here hx rfl (hb hby at_47) rfl (l' := #[.val (.int p0), .val (.int p1), .val (.long p2), .second, .val (.long p3), .second, .val (.ref a_NOT_EQ), .val (.ref a_EQ), .val (.int 1), .val (.int 0)]) rfl ?_
    refine XS.aload X3.here hx rfl (hb hby at_49) rfl rfl ?_
    show Steps p.tables e below (T3.setTop (mkF m 51 #[.val (.int p0), .val (.int p1), .val (.long p2), .second, .val (.long p3), .second, .val (.ref a_NOT_EQ), .val (.ref a_EQ), .val (.int 1), .val (.int 0)] [(.ref a_EQ)])) _
    refine st4.trans ?_
    refine XS.iload X4.here hx rfl (hb hby at_54) rfl ?_
    refine XS.icmpYes X4.here hx rfl (pc0 := 56) (pc' := 61) rfl (hb hby at_56) rfl (by decide) (by decide) (by decide) ?_
    refine XS.aload X4.here hx rfl (hb hby at_61) rfl rfl ?_
    refine XS.iload X4.here hx rfl (hb hby at_63) rfl ?_
    show Steps p.tables e below (T4.setTop (mkF m 65 #[.val (.int p0), .val (.int p1), .val (.long p2), .second, .val (.long p3), .second, .val (.ref a_NOT_EQ), .val (.ref a_EQ), .val (.int 1), .val (.int 0)] [(.int 0), (.ref a_EQ)])) _
    refine XS.lloadN X4.here hx rfl (hb hby at_65) rfl ?_
    refine XS.lload X4.here hx rfl (hb hby at_66) rfl ?_
    show Steps p.tables e below (T4.setTop (mkF m 68 #[.val (.int p0), .val (.int p1), .val (.long p2), .second, .val (.long p3), .second, .val (.ref a_NOT_EQ), .val (.ref a_EQ), .val (.int 1), .val (.int 0)] [(.long p3), (.long p2), (.int 0), (.ref a_EQ)])) _
    refine st5 _ ?_
    refine XS.aload X5.here hx rfl (hb hby at_71) rfl rfl ?_
    refine XS.iload X5.here hx rfl (hb hby at_73) rfl ?_
    refine XS.lloadN X5.here hx rfl (hb hby at_75) rfl ?_
    refine XS.lload X5.here hx rfl (hb hby at_76) rfl ?_
    show Steps p.tables e below (T5.setTop (mkF m 78 #[.val (.int p0), .val (.int p1), .val (.long p2), .second, .val (.long p3), .second, .val (.ref a_NOT_EQ), .val (.ref a_EQ), .val (.int 1), .val (.int 0)] [(.long p3), (.long p2), (.int 0), (.ref a_NOT_EQ), (.int 1)])) _
    refine st6 _ ?_
    refine XS.icmpNo X6.here hx rfl (hb hby at_81) rfl (by decide) ?_
    refine XS.iconst X6.here hx rfl (hb hby at_84) ?_
    refine XS.goto X6.here hx rfl (pc0 := 85) (pc' := 89) rfl (hb hby at_85) (by decide) (by decide) ?_
    show Steps p.tables e below (T6.setTop (mkF m 89 #[.val (.int p0), .val (.int p1), .val (.long p2), .second, .val (.long p3), .second, .val (.ref a_NOT_EQ), .val (.ref a_EQ), .val (.int 1), .val (.int 0)] [(.int 1)])) _
    exact retN X6 hx (t := .boolean) Bd.returns (by simp) (hb hby at_89) hr
  · show QT n0 _ T6.heap _
    rw [e6]
    exact ⟨rfl, N6⟩
set_option maxRecDepth 65536 in
set_option maxHeartbeats 40000000 in
theorem rm0_50 (l : Launch) (Z : State) (a0 : Array Value) (hw : ∀ d ∈ tables_1, d.before a0 Z = true) (ws : List Jvm.Cond) (p0 : Int32) (p1 : Int32) (p2 : Int64) (p3 : Int64) (a_NOT_EQ : Addr) (a_EQ : Addr) (a_IS_NULL : Addr) (a_NOT_NULL : Addr) (h0 : Heap) (n0 : Nat) (Z0 : n0 ≤ h0.size) (f1 : (p0 &&& (7 : Int32)) = (1 : Int32)) (f2 : S_1 Z h0 (.ref a_NOT_EQ)) (f3 : F_0 Z h0 a_NOT_EQ (.int 1)) (f4 : E_0 Z h0 a_NOT_EQ) (f5 : S_0 Z h0 (.ref a_EQ)) (f6 : S_2 Z h0 (.ref a_IS_NULL)) (f7 : a_IS_NULL ≠ a_NOT_EQ) (f8 : S_3 Z h0 (.ref a_NOT_NULL)) (f9 : a_NOT_NULL ≠ a_NOT_EQ) (f10 : a_EQ ≠ a_IS_NULL) (f11 : a_EQ ≠ a_NOT_NULL) (f12 : E_0 Z h0 a_EQ) (f13 : (lcmpW p2 p3) = (1 : Int32)) (f14 : a_EQ ≠ a_NOT_EQ) :
    MetFree l x (head1 (Jvm.Cond.code x code maxLocals ret :: ws) room_1) (fun a U => a = #[(.int p0), (.int p1), (.long p2), (.long p3)] ∧ Z.Warmed39 U.vm ∧ U.heap = h0) (fun _ _ _ _ _ => True) (fun _ U o U' => ∃ v L, o = .returned v ∧ QT n0 v U'.heap L ∧ FrameEnd U o U' L room_1.cells room_1.slots) := by
  refine MetFree.of_bodySF (plainFor_of_name pn_com_example_floe_floe_OperationNegatePinLaw) hisR ?_
  intro p e s m args below meth c s₁ Bd hml0 hP hK
  obtain ⟨rfl, hZ, hh⟩ := hP
  have hx := Bd.exec
  have hby := Bd.bytes
  have hml : c.maxLocals = 10 := hml0
  have hown : s.vm.findClass "com/example/floe/floe/OperationNegatePinLaw" = some m.cls := findClass_of_methodNamed Bd.named
  have hnm := (name_of_methodNamed Bd.named Bd.method).1
  have X0 : Stand p l e room_1 s m #[(.int p0), (.int p1), (.long p2), (.long p3)] below meth c s₁ [] 0 0 := Stand.of_body Bd
  have e0 : s₁.heap = h0 := by rw [← hh, Bd.state]; rfl
  have N0 := Fr.nil n0
  -- pc 1: com/example/floe/floe/OperationNegatePinLaw.pick
  obtain ⟨_, _, ⟨T1, L1, k1, n1⟩, -, X1, ⟨Lc1, hQ1, l1, y1, z1⟩, st1⟩ := Jvm.LawKit.callS X0 hx (y := M_0) hown (mvT hZ (tw_0 hw)) (mvT hZ (tw_1 hw)) (mvT hZ (tw_2 hw)) (mvT hZ (tw_3 hw)) (by decide) (backOf (W := 0) (rm1_45 l Z a0 hw [] p0 a_NOT_EQ h0 n0 Z0 f1 f2) hZ (tw_3 hw) (tw_2 hw) (by decide) (by decide)) (g := (mkF m 1 #[.val (.int p0), .val (.int p1), .val (.long p2), .second, .val (.long p3), .second, .unset, .unset, .unset, .unset] [(.int p0)])) rfl (by rw [hml]; rfl) (argsL := [(.int p0)]) (rest := []) (lenOf pd_0 rfl) rfl (by show 2 * 0 + _ ≤ _; exact Nat.le_of_eq rfl) (hb hby at_1) (fun _ _ => ⟨rfl, e0, (by decide : 0 + 0 ≤ _), (by decide : 0 + 0 ≤ _)⟩)
  dsimp only [Pt.U, Pt.locs, Pt.cells, Pt.slots] at X1 l1 y1 z1 st1 hQ1
  subst l1 y1 z1
  obtain ⟨rfl, Nq1, e1⟩ := hQ1
  have N1 := Fr.app N0 Nq1
  -- pc 8: com/example/floe/floe/Expression$Operation.negate
  obtain ⟨cq2, kq2, q2a, q2b, q2c⟩ := isOf hZ e1 f4
  obtain ⟨_, _, ⟨T2, L2, k2, n2⟩, -, X2, ⟨Lc2, hQ2, l2, y2, z2⟩, st2⟩ := X1.virtualBack hx (y := M_3) (z := M_3) hown (mvT hZ (tw_7 hw)) (mvT hZ (tw_8 hw)) (notFace_of_selects (args := #[]) (mvT hZ (tw_10 hw))) (mvT hZ (tw_10 hw)) (mvT hZ (tw_9 hw)) (by decide) (backOf (W := 0) (rm2_47 l Z a0 hw [] a_NOT_EQ a_EQ h0 n0 Z0 f3 f4 f5) hZ (tw_11 hw) (tw_5 hw) (by decide) (by decide)) q2a q2c (g := (mkF m 8 #[.val (.int p0), .val (.int p1), .val (.long p2), .second, .val (.long p3), .second, .val (.ref a_NOT_EQ), .unset, .unset, .unset] [(.ref a_NOT_EQ)])) rfl (by rw [hml]; rfl) (Steps.refl _) (argsL := []) (rest := []) (lenOf pd_2 rfl) rfl (by show 2 * 0 + _ ≤ _; exact Nat.le_of_eq rfl) (hb hby at_8) (fun _ _ => ⟨rfl, e1, (by decide : 0 + 0 ≤ _), (by decide : 0 + 0 ≤ _)⟩)
  dsimp only [Pt.U, Pt.locs, Pt.cells, Pt.slots] at X2 l2 y2 z2 st2 hQ2
  subst l2 y2 z2
  obtain ⟨rfl, Nq2, e2⟩ := hQ2
  have N2 := Fr.app N1 Nq2
  -- pc 22: com/example/floe/floe/Expression$Operation.compares
  obtain ⟨cq3, kq3, q3a, q3b, q3c⟩ := isOf hZ e2 f4
  obtain ⟨_, _, ⟨T3, L3, k3, n3⟩, -, X3, ⟨Lc3, hQ3, l3, y3, z3⟩, st3⟩ := X2.virtualBack hx (y := M_4) (z := M_4) hown (mvT hZ (tw_23 hw)) (mvT hZ (tw_24 hw)) (notFace_of_selects (args := #[]) (mvT hZ (tw_26 hw))) (mvT hZ (tw_26 hw)) (mvT hZ (tw_25 hw)) (by decide) (backOf (W := 0) (rm4_35 l Z a0 hw [] a_NOT_EQ a_IS_NULL a_NOT_NULL h0 n0 Z0 f6 f7 f8 f9) hZ (tw_27 hw) (tw_5 hw) (by decide) (by decide)) q3a q3c (g := (mkF m 22 #[.val (.int p0), .val (.int p1), .val (.long p2), .second, .val (.long p3), .second, .val (.ref a_NOT_EQ), .val (.ref a_EQ), .unset, .unset] [(.ref a_NOT_EQ)])) rfl (by rw [hml]; rfl) (Steps.refl _) (argsL := []) (rest := []) (lenOf pd_3 rfl) rfl (by show 2 * 0 + _ ≤ _; exact Nat.le_of_eq rfl) (hb hby at_22) (fun _ _ => ⟨rfl, e2, (by decide : 0 + 0 ≤ _), (by decide : 0 + 0 ≤ _)⟩)
  dsimp only [Pt.U, Pt.locs, Pt.cells, Pt.slots] at X3 l3 y3 z3 st3 hQ3
  subst l3 y3 z3
  obtain ⟨rfl, Nq3, e3⟩ := hQ3
  have N3 := Fr.app N2 Nq3
  -- pc 51: com/example/floe/floe/Expression$Operation.compares
  obtain ⟨cq4, kq4, q4a, q4b, q4c⟩ := isOf hZ e3 f12
  obtain ⟨_, _, ⟨T4, L4, k4, n4⟩, -, X4, ⟨Lc4, hQ4, l4, y4, z4⟩, st4⟩ := X3.virtualBack hx (y := M_4) (z := M_4) hown (mvT hZ (tw_23 hw)) (mvT hZ (tw_24 hw)) (notFace_of_selects (args := #[]) (mvT hZ (tw_26 hw))) (mvT hZ (tw_26 hw)) (mvT hZ (tw_25 hw)) (by decide) (backOf (W := 0) (rm4_34 l Z a0 hw [] a_EQ a_IS_NULL a_NOT_NULL h0 n0 Z0 f6 f10 f8 f11) hZ (tw_27 hw) (tw_5 hw) (by decide) (by decide)) q4a q4c (g := (mkF m 51 #[.val (.int p0), .val (.int p1), .val (.long p2), .second, .val (.long p3), .second, .val (.ref a_NOT_EQ), .val (.ref a_EQ), .val (.int 1), .val (.int 0)] [(.ref a_EQ)])) rfl (by rw [hml]; rfl) (Steps.refl _) (argsL := []) (rest := []) (lenOf pd_3 rfl) rfl (by show 2 * 0 + _ ≤ _; exact Nat.le_of_eq rfl) (hb hby at_51) (fun _ _ => ⟨rfl, e3, (by decide : 0 + 0 ≤ _), (by decide : 0 + 0 ≤ _)⟩)
  dsimp only [Pt.U, Pt.locs, Pt.cells, Pt.slots] at X4 l4 y4 z4 st4 hQ4
  subst l4 y4 z4
  obtain ⟨rfl, Nq4, e4⟩ := hQ4
  have N4 := Fr.app N3 Nq4
  -- pc 68: com/example/floe/floe/OperationNegatePinLaw.holds
  obtain ⟨_, _, ⟨T5, L5, k5, n5⟩, -, X5, ⟨Lc5, hQ5, l5, y5, z5⟩, st5⟩ := Jvm.LawKit.callS X4 hx (y := M_5) hown (mvT hZ (tw_32 hw)) (mvT hZ (tw_33 hw)) (mvT hZ (tw_2 hw)) (mvT hZ (tw_34 hw)) (by decide) (backOf (W := 0) (rm5_43 l Z a0 hw [] a_EQ p2 p3 a_IS_NULL a_NOT_NULL h0 n0 Z0 f6 f10 f8 f11 f5 f13) hZ (tw_34 hw) (tw_2 hw) (by decide) (by decide)) (g := (mkF m 68 #[.val (.int p0), .val (.int p1), .val (.long p2), .second, .val (.long p3), .second, .val (.ref a_NOT_EQ), .val (.ref a_EQ), .val (.int 1), .val (.int 0)] [(.long p3), (.long p2), (.int 0), (.ref a_EQ)])) rfl (by rw [hml]; rfl) (argsL := [(.ref a_EQ), (.int 0), (.long p2), (.long p3)]) (rest := []) (lenOf pd_4 rfl) rfl (by show 2 * 0 + _ ≤ _; exact Nat.le_of_eq rfl) (hb hby at_68) (fun _ _ => ⟨rfl, e4, (by decide : 0 + 0 ≤ _), (by decide : 0 + 0 ≤ _)⟩)
  dsimp only [Pt.U, Pt.locs, Pt.cells, Pt.slots] at X5 l5 y5 z5 st5 hQ5
  subst l5 y5 z5
  obtain ⟨rfl, Nq5, e5⟩ := hQ5
  have N5 := Fr.app N4 Nq5
  -- pc 78: com/example/floe/floe/OperationNegatePinLaw.holds
  obtain ⟨_, _, ⟨T6, L6, k6, n6⟩, -, X6, ⟨Lc6, hQ6, l6, y6, z6⟩, st6⟩ := Jvm.LawKit.callS X5 hx (y := M_5) hown (mvT hZ (tw_32 hw)) (mvT hZ (tw_33 hw)) (mvT hZ (tw_2 hw)) (mvT hZ (tw_34 hw)) (by decide) (backOf (W := 1) (rm5_42 l Z a0 hw [] a_NOT_EQ p2 p3 a_IS_NULL a_NOT_NULL a_EQ h0 n0 Z0 f6 (Ne.symm f7) f8 (Ne.symm f9) f5 f14 f2 f13) hZ (tw_34 hw) (tw_2 hw) (by decide) (by decide)) (g := (mkF m 78 #[.val (.int p0), .val (.int p1), .val (.long p2), .second, .val (.long p3), .second, .val (.ref a_NOT_EQ), .val (.ref a_EQ), .val (.int 1), .val (.int 0)] [(.long p3), (.long p2), (.int 0), (.ref a_NOT_EQ), (.int 0)])) rfl (by rw [hml]; rfl) (argsL := [(.ref a_NOT_EQ), (.int 0), (.long p2), (.long p3)]) (rest := [(.int 0)]) (lenOf pd_4 rfl) rfl (by show 2 * 0 + _ ≤ _; exact Nat.le_of_eq rfl) (hb hby at_78) (fun _ _ => ⟨rfl, e5, (by decide : 0 + 0 ≤ _), (by decide : 0 + 0 ≤ _)⟩)
  dsimp only [Pt.U, Pt.locs, Pt.cells, Pt.slots] at X6 l6 y6 z6 st6 hQ6
  subst l6 y6 z6
  obtain ⟨rfl, Nq6, e6⟩ := hQ6
  have N6 := Fr.app N5 Nq6
  obtain ⟨fs, hr, hrun, hended, hW, hsame⟩ := X6.leave (v := (some (.int 1))) (fun h => by rw [Bd.returns] at h; cases h)
  refine ⟨_, _, castTop (ef0_IIJJ m p0 p1 p2 p3) ?_, hrun, hended, _, _, rfl, ?_, ⟨_, rfl⟩, hW, hsame.mono (by decide) (by decide)⟩
  · show Steps p.tables e below (s₁.setTop (mkF m 0 #[.val (.int p0), .val (.int p1), .val (.long p2), .second, .val (.long p3), .second, .unset, .unset, .unset, .unset] [])) _
    refine XS.iloadN X0.here hx rfl (hb hby at_0) rfl ?_
    show Steps p.tables e below (s₁.setTop (mkF m 1 #[.val (.int p0), .val (.int p1), .val (.long p2), .second, .val (.long p3), .second, .unset, .unset, .unset, .unset] [(.int p0)])) _
    refine st1 _ ?_
    refine XS.astore X1.here hx rfl (hb hby at_4) rfl rfl (l' := #[.val (.int p0), .val (.int p1), .val (.long p2), .second, .val (.long p3), .second, .val (.ref a_NOT_EQ), .unset, .unset, .unset]) rfl ?_
    refine XS.aload X1.here hx rfl (hb hby at_6) rfl rfl ?_
    show Steps p.tables e below (T1.setTop (mkF m 8 #[.val (.int p0), .val (.int p1), .val (.long p2), .second, .val (.long p3), .second, .val (.ref a_NOT_EQ), .unset, .unset, .unset] [(.ref a_NOT_EQ)])) _
    refine st2.trans ?_
    refine XS.astore X2.here hx rfl (hb hby at_11) rfl rfl (l' := #[.val (.int p0), .val (.int p1), .val (.long p2), .second, .val (.long p3), .second, .val (.ref a_NOT_EQ), .val (.ref a_EQ), .unset, .unset]) rfl ?_
    refine XS.aload X2.here hx rfl (hb hby at_13) rfl rfl ?_
    refine XS.ifnonnullYes X2.here hx rfl (pc0 := 15) (pc' := 20) rfl (hb hby at_15) rfl (by decide) (by decide) ?_
    refine XS.aload X2.here hx rfl (hb hby at_20) rfl rfl ?_
    show Steps p.tables e below (T2.setTop (mkF m 22 #[.val (.int p0), .val (.int p1), .val (.long p2), .second, .val (.long p3), .second, .val (.ref a_NOT_EQ), .val (.ref a_EQ), .unset, .unset] [(.ref a_NOT_EQ)])) _
    refine st3.trans ?_
    refine XS.istore X3.here hx rfl (hb hby at_25) rfl (l' := #[.val (.int p0), .val (.int p1), .val (.long p2), .second, .val (.long p3), .second, .val (.ref a_NOT_EQ), .val (.ref a_EQ), .val (.int 1), .unset]) rfl ?_
    refine XS.iload X3.here hx rfl (hb hby at_27) rfl ?_
    refine XS.ifNo X3.here hx rfl (hb hby at_29) rfl (by decide) ?_
    refine XS.iconst X3.here hx rfl (hb hby at_32) ?_
    show Steps p.tables e below (T3.setTop (mkF m 33 #[.val (.int p0), .val (.int p1), .val (.long p2), .second, .val (.long p3), .second, .val (.ref a_NOT_EQ), .val (.ref a_EQ), .val (.int 1), .unset] [(.int 0)])) _
    refine XS.goto X3.here hx rfl (pc0 := 33) (pc' := 47) rfl (hb hby at_33) (by decide) (by decide) ?_
    refine XS.istore X3.here hx rfl (hb hby at_47) rfl (l' := #[.val (.int p0), .val (.int p1), .val (.long p2), .second, .val (.long p3), .second, .val (.ref a_NOT_EQ), .val (.ref a_EQ), .val (.int 1), .val (.int 0)]) rfl ?_
    refine XS.aload X3.here hx rfl (hb hby at_49) rfl rfl ?_
    show Steps p.tables e below (T3.setTop (mkF m 51 #[.val (.int p0), .val (.int p1), .val (.long p2), .second, .val (.long p3), .second, .val (.ref a_NOT_EQ), .val (.ref a_EQ), .val (.int 1), .val (.int 0)] [(.ref a_EQ)])) _
    refine st4.trans ?_
    refine XS.iload X4.here hx rfl (hb hby at_54) rfl ?_
    refine XS.icmpYes X4.here hx rfl (pc0 := 56) (pc' := 61) rfl (hb hby at_56) rfl (by decide) (by decide) (by decide) ?_
    refine XS.aload X4.here hx rfl (hb hby at_61) rfl rfl ?_
    refine XS.iload X4.here hx rfl (hb hby at_63) rfl ?_
    show Steps p.tables e below (T4.setTop (mkF m 65 #[.val (.int p0), .val (.int p1), .val (.long p2), .second, .val (.long p3), .second, .val (.ref a_NOT_EQ), .val (.ref a_EQ), .val (.int 1), .val (.int 0)] [(.int 0), (.ref a_EQ)])) _
    refine XS.lloadN X4.here hx rfl (hb hby at_65) rfl ?_
    refine XS.lload X4.here hx rfl (hb hby at_66) rfl ?_
    show Steps p.tables e below (T4.setTop (mkF m 68 #[.val (.int p0), .val (.int p1), .val (.long p2), .second, .val (.long p3), .second, .val (.ref a_NOT_EQ), .val (.ref a_EQ), .val (.int 1), .val (.int 0)] [(.long p3), (.long p2), (.int 0), (.ref a_EQ)])) _
    refine st5 _ ?_
    refine XS.aload X5.here hx rfl (hb hby at_71) rfl rfl ?_
    refine XS.iload X5.here hx rfl (hb hby at_73) rfl ?_
    refine XS.lloadN X5.here hx rfl (hb hby at_75) rfl ?_
    refine XS.lload X5.here hx rfl (hb hby at_76) rfl ?_
    show Steps p.tables e below (T5.setTop (mkF m 78 #[.val (.int p0), .val (.int p1), .val (.long p2), .second, .val (.long p3), .second, .val (.ref a_NOT_EQ), .val (.ref a_EQ), .val (.int 1), .val (.int 0)] [(.long p3), (.long p2), (.int 0), (.ref a_NOT_EQ), (.int 0)])) _
    refine st6 _ ?_
    refine XS.icmpNo X6.here hx rfl (hb hby at_81) rfl (by decide) ?_
    refine XS.iconst X6.here hx rfl (hb hby at_84) ?_
    refine XS.goto X6.here hx rfl (pc0 := 85) (pc' := 89) rfl (hb hby at_85) (by decide) (by decide) ?_
    show Steps p.tables e below (T6.setTop (mkF m 89 #[.val (.int p0), .val (.int p1), .val (.long p2), .second, .val (.long p3), .second, .val (.ref a_NOT_EQ), .val (.ref a_EQ), .val (.int 1), .val (.int 0)] [(.int 1)])) _
    exact retN X6 hx (t := .boolean) Bd.returns (by simp) (hb hby at_89) hr
  · show QT n0 _ T6.heap _
    rw [e6]
    exact ⟨rfl, N6⟩
theorem d1_22 : decode method_2_code 22 = .ok (.iload_n 1, 1) := by decide +kernel
theorem d1_23 : decode method_2_code 23 = .ok (.iconst 2, 1) := by decide +kernel
theorem d1_24 : decode method_2_code 24 = .ok (.if_icmp .ne 7, 3) := by decide +kernel
theorem d1_27 : decode method_2_code 27 = .ok (.getstatic 16, 3) := by decide +kernel
theorem tw_38 {a0 : Array Value} {Z : State} (hw : ∀ d ∈ tables_1, d.before a0 Z = true) : (Jvm.Cond.fieldLink "com/example/floe/floe/OperationNegatePinLaw" (16 : Nat) "com/example/floe/floe/Expression$Operation" "LT" "Lcom/example/floe/floe/Expression$Operation;").before a0 Z = true := hw _ (List.mem_of_getElem? (i := 38) rfl)
theorem d1_30 : decode method_2_code 30 = .ok (.areturn, 1) := by decide +kernel
set_option maxRecDepth 65536 in
set_option maxHeartbeats 40000000 in
theorem rm1_51 (l : Launch) (Z : State) (a0 : Array Value) (hw : ∀ d ∈ tables_1, d.before a0 Z = true) (ws : List Jvm.Cond) (p0 : Int32) (a_LT : Addr) (h0 : Heap) (n0 : Nat) (Z0 : n0 ≤ h0.size) (f1 : (p0 &&& (7 : Int32)) = (2 : Int32)) (f2 : S_4 Z h0 (.ref a_LT)) :
    MetFree l M_0 (head1 (Jvm.Cond.code M_0 method_2_code 2 (some (.object "com/example/floe/floe/Expression$Operation")) :: ws) R_0_0_0_0) (fun a U => a = #[(.int p0)] ∧ Z.Warmed39 U.vm ∧ U.heap = h0) (fun _ _ _ _ _ => True) (fun _ U o U' => ∃ v L, o = .returned v ∧ QP (some (.ref a_LT)) h0 n0 v U'.heap L ∧ FrameEnd U o U' L R_0_0_0_0.cells R_0_0_0_0.slots) := by
  refine MetFree.of_bodySF (plainFor_of_name pn_com_example_floe_floe_OperationNegatePinLaw) hisR ?_
  intro p e s m args below meth c s₁ Bd hml0 hP hK
  obtain ⟨rfl, hZ, hh⟩ := hP
  have hx := Bd.exec
  have hby := Bd.bytes
  have hml : c.maxLocals = 2 := hml0
  have hown : s.vm.findClass "com/example/floe/floe/OperationNegatePinLaw" = some m.cls := findClass_of_methodNamed Bd.named
  have hnm := (name_of_methodNamed Bd.named Bd.method).1
  have X0 : Stand p l e R_0_0_0_0 s m #[(.int p0)] below meth c s₁ [] 0 0 := Stand.of_body Bd
  have e0 : s₁.heap = h0 := by rw [← hh, Bd.state]; rfl
  have N0 := Fr.nil n0
  obtain ⟨T1, X1, e1, st1⟩ := getS2 X0 hx hZ hown (host := "") (Or.inl (tw_38 hw)) Via.refl e0 f2 (g := (mkF m 27 #[.val (.int p0), .val (.int 2)] [])) rfl (hb hby d1_27)
  obtain ⟨fs, hr, hrun, hended, hW, hsame⟩ := X1.leave (v := (some (.ref a_LT))) (fun h => by rw [Bd.returns] at h; cases h)
  refine ⟨_, _, castTop (ef1_I m p0) ?_, hrun, hended, _, _, rfl, ?_, ⟨_, rfl⟩, hW, hsame.mono (by decide) (by decide)⟩
  · show Steps p.tables e below (s₁.setTop (mkF m 0 #[.val (.int p0), .unset] [])) _
    refine XS.iloadN X0.here hx rfl (hb hby d1_0) rfl ?_
    refine XS.bipush X0.here hx rfl (hb hby d1_1) ?_
    show Steps p.tables e below (s₁.setTop (mkF m 3 #[.val (.int p0), .unset] [(.int 7), (.int p0)])) _
    refine XS.iand X0.here hx rfl (hb hby d1_3) rfl ?_
    show Steps p.tables e below (s₁.setTop (mkF m 4 #[.val (.int p0), .unset] [(.int (p0 &&& (7 : Int32)))])) _
    rw [f1]
    refine XS.istoreN X0.here hx rfl (hb hby d1_4) rfl (l' := #[.val (.int p0), .val (.int 2)]) rfl ?_
    refine XS.iloadN X0.here hx rfl (hb hby d1_5) rfl ?_
    refine XS.ifYes X0.here hx rfl (pc0 := 6) (pc' := 13) rfl (hb hby d1_6) rfl (by decide) (by decide) (by decide) ?_
    refine XS.iloadN X0.here hx rfl (hb hby d1_13) rfl ?_
    show Steps p.tables e below (s₁.setTop (mkF m 14 #[.val (.int p0), .val (.int 2)] [(.int 2)])) _
    refine XS.iconst X0.here hx rfl (hb hby d1_14) ?_
    refine XS.icmpYes X0.here hx rfl (pc0 := 15) (pc' := 22) rfl (hb hby d1_15) rfl (by decide) (by decide) (by decide) ?_
    refine XS.iloadN X0.here hx rfl (hb hby d1_22) rfl ?_
    refine XS.iconst X0.here hx rfl (hb hby d1_23) ?_
    refine XS.icmpNo X0.here hx rfl (hb hby d1_24) rfl (by decide) ?_
    show Steps p.tables e below (s₁.setTop (mkF m 27 #[.val (.int p0), .val (.int 2)] [])) _
    refine st1 _ ?_
    show Steps p.tables e below (T1.setTop (mkF m 30 #[.val (.int p0), .val (.int 2)] [(.ref a_LT)])) _
    jvm_step X1.here [X1.here.top, hx, (hb hby d1_30), X1.method', Bd.returns, Value.isRef, FieldType.isReference]
    first | (intro acts; rw [hr _ acts rfl rfl rfl]) | rw [hr _ _ rfl rfl rfl]
    exact Steps.refl _
  · show QP (some (.ref a_LT)) h0 n0 _ T1.heap _
    rw [e1]
    exact ⟨rfl, N0, rfl⟩
set_option maxRecDepth 65536 in
set_option maxHeartbeats 40000000 in
theorem rm3_52 (l : Launch) (Z : State) (a0 : Array Value) (hw : ∀ d ∈ tables_1, d.before a0 Z = true) (ws : List Jvm.Cond) (a_LT : Addr) (h0 : Heap) (n0 : Nat) (Z0 : n0 ≤ h0.size) (f1 : F_0 Z h0 a_LT (.int 2)) :
    MetFree l M_1 (head1 (Jvm.Cond.code M_1 jdk_37_method_2_code 1 (some .int) :: ws) R_0_0_0_0) (fun a U => a = #[(.ref a_LT)] ∧ Z.Warmed39 U.vm ∧ U.heap = h0) (fun _ _ _ _ _ => True) (fun _ U o U' => ∃ v L, o = .returned v ∧ QP (some (.int 2)) h0 n0 v U'.heap L ∧ FrameEnd U o U' L R_0_0_0_0.cells R_0_0_0_0.slots) := by
  refine MetFree.of_bodySF (plainFor_of_name pn_java_lang_Enum) hisR ?_
  intro p e s m args below meth c s₁ Bd hml0 hP hK
  obtain ⟨rfl, hZ, hh⟩ := hP
  have hx := Bd.exec
  have hby := Bd.bytes
  have hml : c.maxLocals = 1 := hml0
  have hown : s.vm.findClass "java/lang/Enum" = some m.cls := findClass_of_methodNamed Bd.named
  have hnm := (name_of_methodNamed Bd.named Bd.method).1
  have X0 : Stand p l e R_0_0_0_0 s m #[(.ref a_LT)] below meth c s₁ [] 0 0 := Stand.of_body Bd
  have e0 : s₁.heap = h0 := by rw [← hh, Bd.state]; rfl
  have N0 := Fr.nil n0
  obtain ⟨T1, X1, e1, st1⟩ := getF X0 hx hZ hown (host := "") (Or.inl (tw_19 hw)) Via.refl e0 f1 (g := (mkF m 1 #[.val (.ref a_LT)] [(.ref a_LT)])) rfl rfl (hb hby d3_1)
  obtain ⟨fs, hr, hrun, hended, hW, hsame⟩ := X1.leave (v := (some (.int 2))) (fun h => by rw [Bd.returns] at h; cases h)
  refine ⟨_, _, castTop (ef3_R m a_LT) ?_, hrun, hended, _, _, rfl, ?_, ⟨_, rfl⟩, hW, hsame.mono (by decide) (by decide)⟩
  · show Steps p.tables e below (s₁.setTop (mkF m 0 #[.val (.ref a_LT)] [])) _
    refine XS.aloadN X0.here hx rfl (hb hby d3_0) rfl rfl ?_
    show Steps p.tables e below (s₁.setTop (mkF m 1 #[.val (.ref a_LT)] [(.ref a_LT)])) _
    refine st1 _ ?_
    show Steps p.tables e below (T1.setTop (mkF m 4 #[.val (.ref a_LT)] [(.int 2)])) _
    exact retI X1 hx Bd.returns (hb hby d3_4) hr
  · show QP (some (.int 2)) h0 n0 _ T1.heap _
    rw [e1]
    exact ⟨rfl, N0, rfl⟩
theorem d2_74 : decode prog_13_method_7_code 74 = .ok (.getstatic 19, 3) := by decide +kernel
theorem tw_40 {a0 : Array Value} {Z : State} (hw : ∀ d ∈ tables_1, d.before a0 Z = true) : (Jvm.Cond.fieldLink "com/example/floe/floe/Expression$Operation" (19 : Nat) "com/example/floe/floe/Expression$Operation" "GT_EQ" "Lcom/example/floe/floe/Expression$Operation;").before a0 Z = true := hw _ (List.mem_of_getElem? (i := 40) rfl)
theorem d2_77 : decode prog_13_method_7_code 77 = .ok (.goto 30, 3) := by decide +kernel
set_option maxRecDepth 65536 in
set_option maxHeartbeats 40000000 in
theorem rm2_53 (l : Launch) (Z : State) (a0 : Array Value) (hw : ∀ d ∈ tables_1, d.before a0 Z = true) (ws : List Jvm.Cond) (a_LT : Addr) (a_GT_EQ : Addr) (h0 : Heap) (n0 : Nat) (Z0 : n0 ≤ h0.size) (f1 : F_0 Z h0 a_LT (.int 2)) (f2 : E_0 Z h0 a_LT) (f3 : S_5 Z h0 (.ref a_GT_EQ)) :
    MetFree l M_3 (head1 (Jvm.Cond.code M_3 prog_13_method_7_code 1 (some (.object "com/example/floe/floe/Expression$Operation")) :: ws) R_1_0_0_12) (fun a U => a = #[(.ref a_LT)] ∧ Z.Warmed39 U.vm ∧ U.heap = h0) (fun _ _ _ _ _ => True) (fun _ U o U' => ∃ v L, o = .returned v ∧ QP (some (.ref a_GT_EQ)) h0 n0 v U'.heap L ∧ FrameEnd U o U' L R_1_0_0_12.cells R_1_0_0_12.slots) := by
  refine MetFree.of_bodySF (plainFor_of_name pn_com_example_floe_floe_Expression_Operation) hisR ?_
  intro p e s m args below meth c s₁ Bd hml0 hP hK
  obtain ⟨rfl, hZ, hh⟩ := hP
  have hx := Bd.exec
  have hby := Bd.bytes
  have hml : c.maxLocals = 1 := hml0
  have hown : s.vm.findClass "com/example/floe/floe/Expression$Operation" = some m.cls := findClass_of_methodNamed Bd.named
  have hnm := (name_of_methodNamed Bd.named Bd.method).1
  have X0 : Stand p l e R_1_0_0_12 s m #[(.ref a_LT)] below meth c s₁ [] 0 0 := Stand.of_body Bd
  have e0 : s₁.heap = h0 := by rw [← hh, Bd.state]; rfl
  have N0 := Fr.nil n0
  -- pc 1: java/lang/Enum.ordinal
  obtain ⟨cq1, kq1, q1a, q1b, q1c⟩ := isOf hZ e0 f2
  obtain ⟨_, _, ⟨T1, L1, k1, n1⟩, -, X1, ⟨Lc1, hQ1, l1, y1, z1⟩, st1⟩ := X0.virtualBackUp hx (x := M_2) (y := M_1) (owner := "java/lang/Enum") hown (mvT hZ (tw_12 hw)) (mvT hZ (tw_13 hw)) (mvT hZ (tw_14 hw)) (by decide) (mvT hZ (tw_16 hw)) (mvT hZ (tw_15 hw)) (backOf (W := 0) (rm3_52 l Z a0 hw [] a_LT h0 n0 Z0 f1) hZ (tw_18 hw) (tw_17 hw) (by decide) (by decide)) q1a q1c (g := (mkF m 1 #[.val (.ref a_LT)] [(.ref a_LT)])) rfl (by rw [hml]; rfl) (Steps.refl _) (argsL := []) (rest := []) (lenOf pd_1 rfl) rfl (by show 2 * 0 + _ ≤ _; exact Nat.le_of_eq rfl) (hb hby d2_1) (fun _ _ => ⟨rfl, e0, (by decide : 0 + 0 ≤ _), (by decide : 0 + 0 ≤ _)⟩)
  dsimp only [Pt.U, Pt.locs, Pt.cells, Pt.slots] at X1 l1 y1 z1 st1 hQ1
  subst l1 y1 z1
  obtain ⟨rfl, Nq1, e1⟩ := hQ1
  have N1 := Fr.app N0 Nq1
  obtain ⟨T2, X2, e2, st2⟩ := getS2 X1 hx hZ hown (host := "") (Or.inl (tw_40 hw)) Via.refl e1 f3 (g := (mkF m 74 #[.val (.ref a_LT)] [])) rfl (hb hby d2_74)
  obtain ⟨fs, hr, hrun, hended, hW, hsame⟩ := X2.leave (v := (some (.ref a_GT_EQ))) (fun h => by rw [Bd.returns] at h; cases h)
  refine ⟨_, _, castTop (ef2_R m a_LT) ?_, hrun, hended, _, _, rfl, ?_, ⟨_, rfl⟩, hW, hsame.mono (by decide) (by decide)⟩
  · show Steps p.tables e below (s₁.setTop (mkF m 0 #[.val (.ref a_LT)] [])) _
    refine XS.aloadN X0.here hx rfl (hb hby d2_0) rfl rfl ?_
    show Steps p.tables e below (s₁.setTop (mkF m 1 #[.val (.ref a_LT)] [(.ref a_LT)])) _
    refine st1.trans ?_
    show Steps p.tables e below (T1.setTop (mkF m 4 #[.val (.ref a_LT)] [(.int 2)])) _
    refine XS.tswIn X1.here hx rfl (pc0 := 4) (pc' := 74) (o := 70) rfl (hb hby d2_4) rfl (by decide) (by decide) (by decide) (by decide) ?_
    show Steps p.tables e below (T1.setTop (mkF m 74 #[.val (.ref a_LT)] [])) _
    refine st2 _ ?_
    refine XS.goto X2.here hx rfl (pc0 := 77) (pc' := 107) rfl (hb hby d2_77) (by decide) (by decide) ?_
    show Steps p.tables e below (T2.setTop (mkF m 107 #[.val (.ref a_LT)] [(.ref a_GT_EQ)])) _
    jvm_step X2.here [X2.here.top, hx, (hb hby d2_107), X2.method', Bd.returns, Value.isRef, FieldType.isReference]
    first | (intro acts; rw [hr _ acts rfl rfl rfl]) | rw [hr _ _ rfl rfl rfl]
    exact Steps.refl _
  · show QP (some (.ref a_GT_EQ)) h0 n0 _ T2.heap _
    rw [e2]
    exact ⟨rfl, N1, rfl⟩
set_option maxRecDepth 65536 in
set_option maxHeartbeats 40000000 in
theorem rm4_54 (l : Launch) (Z : State) (a0 : Array Value) (hw : ∀ d ∈ tables_1, d.before a0 Z = true) (ws : List Jvm.Cond) (a_LT : Addr) (a_IS_NULL : Addr) (a_NOT_NULL : Addr) (h0 : Heap) (n0 : Nat) (Z0 : n0 ≤ h0.size) (f1 : S_2 Z h0 (.ref a_IS_NULL)) (f2 : a_IS_NULL ≠ a_LT) (f3 : S_3 Z h0 (.ref a_NOT_NULL)) (f4 : a_NOT_NULL ≠ a_LT) :
    MetFree l M_4 (head1 (Jvm.Cond.code M_4 prog_13_method_5_code 1 (some .boolean) :: ws) R_0_0_0_0) (fun a U => a = #[(.ref a_LT)] ∧ Z.Warmed39 U.vm ∧ U.heap = h0) (fun _ _ _ _ _ => True) (fun _ U o U' => ∃ v L, o = .returned v ∧ QP (some (.int 1)) h0 n0 v U'.heap L ∧ FrameEnd U o U' L R_0_0_0_0.cells R_0_0_0_0.slots) := by
  refine MetFree.of_bodySF (plainFor_of_name pn_com_example_floe_floe_Expression_Operation) hisR ?_
  intro p e s m args below meth c s₁ Bd hml0 hP hK
  obtain ⟨rfl, hZ, hh⟩ := hP
  have hx := Bd.exec
  have hby := Bd.bytes
  have hml : c.maxLocals = 1 := hml0
  have hown : s.vm.findClass "com/example/floe/floe/Expression$Operation" = some m.cls := findClass_of_methodNamed Bd.named
  have hnm := (name_of_methodNamed Bd.named Bd.method).1
  have X0 : Stand p l e R_0_0_0_0 s m #[(.ref a_LT)] below meth c s₁ [] 0 0 := Stand.of_body Bd
  have e0 : s₁.heap = h0 := by rw [← hh, Bd.state]; rfl
  have N0 := Fr.nil n0
  obtain ⟨T1, X1, e1, st1⟩ := getS2 X0 hx hZ hown (host := "") (Or.inl (tw_28 hw)) Via.refl e0 f1 (g := (mkF m 1 #[.val (.ref a_LT)] [(.ref a_LT)])) rfl (hb hby d4_1)
  obtain ⟨T2, X2, e2, st2⟩ := getS2 X1 hx hZ hown (host := "") (Or.inl (tw_30 hw)) Via.refl e1 f3 (g := (mkF m 8 #[.val (.ref a_LT)] [(.ref a_LT)])) rfl (hb hby d4_8)
  obtain ⟨fs, hr, hrun, hended, hW, hsame⟩ := X2.leave (v := (some (.int 1))) (fun h => by rw [Bd.returns] at h; cases h)
  refine ⟨_, _, castTop (ef4_R m a_LT) ?_, hrun, hended, _, _, rfl, ?_, ⟨_, rfl⟩, hW, hsame.mono (by decide) (by decide)⟩
  · show Steps p.tables e below (s₁.setTop (mkF m 0 #[.val (.ref a_LT)] [])) _
    refine XS.aloadN X0.here hx rfl (hb hby d4_0) rfl rfl ?_
    show Steps p.tables e below (s₁.setTop (mkF m 1 #[.val (.ref a_LT)] [(.ref a_LT)])) _
    refine st1 _ ?_
    show Steps p.tables e below (T1.setTop (mkF m 4 #[.val (.ref a_LT)] [(.ref a_IS_NULL), (.ref a_LT)])) _
    refine Jvm.RoadKit.acmp (g := (mkF m 4 #[.val (.ref a_LT)] [(.ref a_IS_NULL), (.ref a_LT)])) X1 hx rfl rfl rfl (pc0 := 4) (pc' := 7) (same := false) rfl (hb hby d4_4) rfl (decide_eq_false fun q => (Ne.symm f2) (Value.ref.inj q)) (by decide) (by decide) ?_
    refine XS.aloadN X1.here hx rfl (hb hby d4_7) rfl rfl ?_
    show Steps p.tables e below (T1.setTop (mkF m 8 #[.val (.ref a_LT)] [(.ref a_LT)])) _
    refine st2 _ ?_
    show Steps p.tables e below (T2.setTop (mkF m 11 #[.val (.ref a_LT)] [(.ref a_NOT_NULL), (.ref a_LT)])) _
    refine Jvm.RoadKit.acmp (g := (mkF m 11 #[.val (.ref a_LT)] [(.ref a_NOT_NULL), (.ref a_LT)])) X2 hx rfl rfl rfl (pc0 := 11) (pc' := 14) (same := false) rfl (hb hby d4_11) rfl (decide_eq_false fun q => (Ne.symm f4) (Value.ref.inj q)) (by decide) (by decide) ?_
    refine XS.iconst X2.here hx rfl (hb hby d4_14) ?_
    refine XS.goto X2.here hx rfl (pc0 := 15) (pc' := 19) rfl (hb hby d4_15) (by decide) (by decide) ?_
    show Steps p.tables e below (T2.setTop (mkF m 19 #[.val (.ref a_LT)] [(.int 1)])) _
    exact retN X2 hx (t := .boolean) Bd.returns (by simp) (hb hby d4_19) hr
  · show QP (some (.int 1)) h0 n0 _ T2.heap _
    rw [e2]
    exact ⟨rfl, N0, rfl⟩
set_option maxRecDepth 65536 in
set_option maxHeartbeats 40000000 in
theorem rm4_55 (l : Launch) (Z : State) (a0 : Array Value) (hw : ∀ d ∈ tables_1, d.before a0 Z = true) (ws : List Jvm.Cond) (a_GT_EQ : Addr) (a_IS_NULL : Addr) (a_NOT_NULL : Addr) (h0 : Heap) (n0 : Nat) (Z0 : n0 ≤ h0.size) (f1 : S_2 Z h0 (.ref a_IS_NULL)) (f2 : a_IS_NULL ≠ a_GT_EQ) (f3 : S_3 Z h0 (.ref a_NOT_NULL)) (f4 : a_NOT_NULL ≠ a_GT_EQ) :
    MetFree l M_4 (head1 (Jvm.Cond.code M_4 prog_13_method_5_code 1 (some .boolean) :: ws) R_0_0_0_0) (fun a U => a = #[(.ref a_GT_EQ)] ∧ Z.Warmed39 U.vm ∧ U.heap = h0) (fun _ _ _ _ _ => True) (fun _ U o U' => ∃ v L, o = .returned v ∧ QP (some (.int 1)) h0 n0 v U'.heap L ∧ FrameEnd U o U' L R_0_0_0_0.cells R_0_0_0_0.slots) := by
  refine MetFree.of_bodySF (plainFor_of_name pn_com_example_floe_floe_Expression_Operation) hisR ?_
  intro p e s m args below meth c s₁ Bd hml0 hP hK
  obtain ⟨rfl, hZ, hh⟩ := hP
  have hx := Bd.exec
  have hby := Bd.bytes
  have hml : c.maxLocals = 1 := hml0
  have hown : s.vm.findClass "com/example/floe/floe/Expression$Operation" = some m.cls := findClass_of_methodNamed Bd.named
  have hnm := (name_of_methodNamed Bd.named Bd.method).1
  have X0 : Stand p l e R_0_0_0_0 s m #[(.ref a_GT_EQ)] below meth c s₁ [] 0 0 := Stand.of_body Bd
  have e0 : s₁.heap = h0 := by rw [← hh, Bd.state]; rfl
  have N0 := Fr.nil n0
  obtain ⟨T1, X1, e1, st1⟩ := getS2 X0 hx hZ hown (host := "") (Or.inl (tw_28 hw)) Via.refl e0 f1 (g := (mkF m 1 #[.val (.ref a_GT_EQ)] [(.ref a_GT_EQ)])) rfl (hb hby d4_1)
  obtain ⟨T2, X2, e2, st2⟩ := getS2 X1 hx hZ hown (host := "") (Or.inl (tw_30 hw)) Via.refl e1 f3 (g := (mkF m 8 #[.val (.ref a_GT_EQ)] [(.ref a_GT_EQ)])) rfl (hb hby d4_8)
  obtain ⟨fs, hr, hrun, hended, hW, hsame⟩ := X2.leave (v := (some (.int 1))) (fun h => by rw [Bd.returns] at h; cases h)
  refine ⟨_, _, castTop (ef4_R m a_GT_EQ) ?_, hrun, hended, _, _, rfl, ?_, ⟨_, rfl⟩, hW, hsame.mono (by decide) (by decide)⟩
  · show Steps p.tables e below (s₁.setTop (mkF m 0 #[.val (.ref a_GT_EQ)] [])) _
    refine XS.aloadN X0.here hx rfl (hb hby d4_0) rfl rfl ?_
    show Steps p.tables e below (s₁.setTop (mkF m 1 #[.val (.ref a_GT_EQ)] [(.ref a_GT_EQ)])) _
    refine st1 _ ?_
    show Steps p.tables e below (T1.setTop (mkF m 4 #[.val (.ref a_GT_EQ)] [(.ref a_IS_NULL), (.ref a_GT_EQ)])) _
    refine Jvm.RoadKit.acmp (g := (mkF m 4 #[.val (.ref a_GT_EQ)] [(.ref a_IS_NULL), (.ref a_GT_EQ)])) X1 hx rfl rfl rfl (pc0 := 4) (pc' := 7) (same := false) rfl (hb hby d4_4) rfl (decide_eq_false fun q => (Ne.symm f2) (Value.ref.inj q)) (by decide) (by decide) ?_
    refine XS.aloadN X1.here hx rfl (hb hby d4_7) rfl rfl ?_
    show Steps p.tables e below (T1.setTop (mkF m 8 #[.val (.ref a_GT_EQ)] [(.ref a_GT_EQ)])) _
    refine st2 _ ?_
    show Steps p.tables e below (T2.setTop (mkF m 11 #[.val (.ref a_GT_EQ)] [(.ref a_NOT_NULL), (.ref a_GT_EQ)])) _
    refine Jvm.RoadKit.acmp (g := (mkF m 11 #[.val (.ref a_GT_EQ)] [(.ref a_NOT_NULL), (.ref a_GT_EQ)])) X2 hx rfl rfl rfl (pc0 := 11) (pc' := 14) (same := false) rfl (hb hby d4_11) rfl (decide_eq_false fun q => (Ne.symm f4) (Value.ref.inj q)) (by decide) (by decide) ?_
    refine XS.iconst X2.here hx rfl (hb hby d4_14) ?_
    refine XS.goto X2.here hx rfl (pc0 := 15) (pc' := 19) rfl (hb hby d4_15) (by decide) (by decide) ?_
    show Steps p.tables e below (T2.setTop (mkF m 19 #[.val (.ref a_GT_EQ)] [(.int 1)])) _
    exact retN X2 hx (t := .boolean) Bd.returns (by simp) (hb hby d4_19) hr
  · show QP (some (.int 1)) h0 n0 _ T2.heap _
    rw [e2]
    exact ⟨rfl, N0, rfl⟩
theorem d5_66 : decode method_3_code 66 = .ok (.aload_n 0, 1) := by decide +kernel
theorem d5_67 : decode method_3_code 67 = .ok (.getstatic 16, 3) := by decide +kernel
theorem d5_70 : decode method_3_code 70 = .ok (.if_acmp .ne 16, 3) := by decide +kernel
theorem d5_86 : decode method_3_code 86 = .ok (.aload_n 0, 1) := by decide +kernel
theorem d5_87 : decode method_3_code 87 = .ok (.getstatic 19, 3) := by decide +kernel
theorem tw_42 {a0 : Array Value} {Z : State} (hw : ∀ d ∈ tables_1, d.before a0 Z = true) : (Jvm.Cond.fieldLink "com/example/floe/floe/OperationNegatePinLaw" (19 : Nat) "com/example/floe/floe/Expression$Operation" "LT_EQ" "Lcom/example/floe/floe/Expression$Operation;").before a0 Z = true := hw _ (List.mem_of_getElem? (i := 42) rfl)
theorem d5_90 : decode method_3_code 90 = .ok (.if_acmp .ne 16, 3) := by decide +kernel
theorem d5_106 : decode method_3_code 106 = .ok (.aload_n 0, 1) := by decide +kernel
theorem d5_107 : decode method_3_code 107 = .ok (.getstatic 22, 3) := by decide +kernel
theorem tw_44 {a0 : Array Value} {Z : State} (hw : ∀ d ∈ tables_1, d.before a0 Z = true) : (Jvm.Cond.fieldLink "com/example/floe/floe/OperationNegatePinLaw" (22 : Nat) "com/example/floe/floe/Expression$Operation" "GT" "Lcom/example/floe/floe/Expression$Operation;").before a0 Z = true := hw _ (List.mem_of_getElem? (i := 44) rfl)
theorem d5_110 : decode method_3_code 110 = .ok (.if_acmp .ne 16, 3) := by decide +kernel
theorem d5_126 : decode method_3_code 126 = .ok (.aload_n 0, 1) := by decide +kernel
theorem d5_127 : decode method_3_code 127 = .ok (.getstatic 25, 3) := by decide +kernel
theorem tw_46 {a0 : Array Value} {Z : State} (hw : ∀ d ∈ tables_1, d.before a0 Z = true) : (Jvm.Cond.fieldLink "com/example/floe/floe/OperationNegatePinLaw" (25 : Nat) "com/example/floe/floe/Expression$Operation" "GT_EQ" "Lcom/example/floe/floe/Expression$Operation;").before a0 Z = true := hw _ (List.mem_of_getElem? (i := 46) rfl)
theorem d5_130 : decode method_3_code 130 = .ok (.if_acmp .ne 16, 3) := by decide +kernel
theorem d5_133 : decode method_3_code 133 = .ok (.lload_n 2, 1) := by decide +kernel
theorem d5_134 : decode method_3_code 134 = .ok (.lload 4, 2) := by decide +kernel
theorem d5_136 : decode method_3_code 136 = .ok (.lcmp, 1) := by decide +kernel
theorem d5_137 : decode method_3_code 137 = .ok (.ifCond .lt 7, 3) := by decide +kernel
theorem d5_144 : decode method_3_code 144 = .ok (.iconst 0, 1) := by decide +kernel
theorem d5_145 : decode method_3_code 145 = .ok (.ireturn, 1) := by decide +kernel
set_option maxRecDepth 65536 in
set_option maxHeartbeats 40000000 in
theorem rm5_56 (l : Launch) (Z : State) (a0 : Array Value) (hw : ∀ d ∈ tables_1, d.before a0 Z = true) (ws : List Jvm.Cond) (a_GT_EQ : Addr) (p2 : Int64) (p3 : Int64) (a_IS_NULL : Addr) (a_NOT_NULL : Addr) (a_EQ : Addr) (a_NOT_EQ : Addr) (a_LT : Addr) (a_LT_EQ : Addr) (a_GT : Addr) (h0 : Heap) (n0 : Nat) (Z0 : n0 ≤ h0.size) (f1 : S_2 Z h0 (.ref a_IS_NULL)) (f2 : a_GT_EQ ≠ a_IS_NULL) (f3 : S_3 Z h0 (.ref a_NOT_NULL)) (f4 : a_GT_EQ ≠ a_NOT_NULL) (f5 : S_0 Z h0 (.ref a_EQ)) (f6 : a_EQ ≠ a_GT_EQ) (f7 : S_1 Z h0 (.ref a_NOT_EQ)) (f8 : a_NOT_EQ ≠ a_GT_EQ) (f9 : S_4 Z h0 (.ref a_LT)) (f10 : a_LT ≠ a_GT_EQ) (f11 : S_6 Z h0 (.ref a_LT_EQ)) (f12 : a_GT_EQ ≠ a_LT_EQ) (f13 : S_7 Z h0 (.ref a_GT)) (f14 : a_GT_EQ ≠ a_GT) (f15 : S_5 Z h0 (.ref a_GT_EQ)) (f16 : (lcmpW p2 p3) = (-1 : Int32)) :
    MetFree l M_5 (head1 (Jvm.Cond.code M_5 method_3_code 6 (some .boolean) :: ws) R_0_0_0_0) (fun a U => a = #[(.ref a_GT_EQ), (.int 0), (.long p2), (.long p3)] ∧ Z.Warmed39 U.vm ∧ U.heap = h0) (fun _ _ _ _ _ => True) (fun _ U o U' => ∃ v L, o = .returned v ∧ QP (some (.int 0)) h0 n0 v U'.heap L ∧ FrameEnd U o U' L R_0_0_0_0.cells R_0_0_0_0.slots) := by
  refine MetFree.of_bodySF (plainFor_of_name pn_com_example_floe_floe_OperationNegatePinLaw) hisR ?_
  intro p e s m args below meth c s₁ Bd hml0 hP hK
  obtain ⟨rfl, hZ, hh⟩ := hP
  have hx := Bd.exec
  have hby := Bd.bytes
  have hml : c.maxLocals = 6 := hml0
  have hown : s.vm.findClass "com/example/floe/floe/OperationNegatePinLaw" = some m.cls := findClass_of_methodNamed Bd.named
  have hnm := (name_of_methodNamed Bd.named Bd.method).1
  have X0 : Stand p l e R_0_0_0_0 s m #[(.ref a_GT_EQ), (.int 0), (.long p2), (.long p3)] below meth c s₁ [] 0 0 := Stand.of_body Bd
  have e0 : s₁.heap = h0 := by rw [← hh, Bd.state]; rfl
  have N0 := Fr.nil n0
  obtain ⟨T1, X1, e1, st1⟩ := getS2 X0 hx hZ hown (host := "") (Or.inl (tw_35 hw)) Via.refl e0 f1 (g := (mkF m 1 #[.val (.ref a_GT_EQ), .val (.int 0), .val (.long p2), .second, .val (.long p3), .second] [(.ref a_GT_EQ)])) rfl (hb hby d5_1)
  obtain ⟨T2, X2, e2, st2⟩ := getS2 X1 hx hZ hown (host := "") (Or.inl (tw_36 hw)) Via.refl e1 f3 (g := (mkF m 10 #[.val (.ref a_GT_EQ), .val (.int 0), .val (.long p2), .second, .val (.long p3), .second] [(.ref a_GT_EQ)])) rfl (hb hby d5_10)
  obtain ⟨T3, X3, e3, st3⟩ := getS2 X2 hx hZ hown (host := "") (Or.inl (tw_4 hw)) Via.refl e2 f5 (g := (mkF m 27 #[.val (.ref a_GT_EQ), .val (.int 0), .val (.long p2), .second, .val (.long p3), .second] [(.ref a_GT_EQ)])) rfl (hb hby d5_27)
  obtain ⟨T4, X4, e4, st4⟩ := getS2 X3 hx hZ hown (host := "") (Or.inl (tw_37 hw)) Via.refl e3 f7 (g := (mkF m 47 #[.val (.ref a_GT_EQ), .val (.int 0), .val (.long p2), .second, .val (.long p3), .second] [(.ref a_GT_EQ)])) rfl (hb hby d5_47)
  obtain ⟨T5, X5, e5, st5⟩ := getS2 X4 hx hZ hown (host := "") (Or.inl (tw_38 hw)) Via.refl e4 f9 (g := (mkF m 67 #[.val (.ref a_GT_EQ), .val (.int 0), .val (.long p2), .second, .val (.long p3), .second] [(.ref a_GT_EQ)])) rfl (hb hby d5_67)
  obtain ⟨T6, X6, e6, st6⟩ := getS2 X5 hx hZ hown (host := "") (Or.inl (tw_42 hw)) Via.refl e5 f11 (g := (mkF m 87 #[.val (.ref a_GT_EQ), .val (.int 0), .val (.long p2), .second, .val (.long p3), .second] [(.ref a_GT_EQ)])) rfl (hb hby d5_87)
  obtain ⟨T7, X7, e7, st7⟩ := getS2 X6 hx hZ hown (host := "") (Or.inl (tw_44 hw)) Via.refl e6 f13 (g := (mkF m 107 #[.val (.ref a_GT_EQ), .val (.int 0), .val (.long p2), .second, .val (.long p3), .second] [(.ref a_GT_EQ)])) rfl (hb hby d5_107)
  obtain ⟨T8, X8, e8, st8⟩ := getS2 X7 hx hZ hown (host := "") (Or.inl (tw_46 hw)) Via.refl e7 f15 (g := (mkF m 127 #[.val (.ref a_GT_EQ), .val (.int 0), .val (.long p2), .second, .val (.long p3), .second] [(.ref a_GT_EQ)])) rfl (hb hby d5_127)
  obtain ⟨fs, hr, hrun, hended, hW, hsame⟩ := X8.leave (v := (some (.int 0))) (fun h => by rw [Bd.returns] at h; cases h)
  refine ⟨_, _, castTop (ef5_RIJJ m a_GT_EQ (0 : Int32) p2 p3) ?_, hrun, hended, _, _, rfl, ?_, ⟨_, rfl⟩, hW, hsame.mono (by decide) (by decide)⟩
  · show Steps p.tables e below (s₁.setTop (mkF m 0 #[.val (.ref a_GT_EQ), .val (.int 0), .val (.long p2), .second, .val (.long p3), .second] [])) _
    refine XS.aloadN X0.here hx rfl (hb hby d5_0) rfl rfl ?_
    show Steps p.tables e below (s₁.setTop (mkF m 1 #[.val (.ref a_GT_EQ), .val (.int 0), .val (.long p2), .second, .val (.long p3), .second] [(.ref a_GT_EQ)])) _
    refine st1 _ ?_
    show Steps p.tables e below (T1.setTop (mkF m 4 #[.val (.ref a_GT_EQ), .val (.int 0), .val (.long p2), .second, .val (.long p3), .second] [(.ref a_IS_NULL), (.ref a_GT_EQ)])) _
    refine Jvm.RoadKit.acmp (g := (mkF m 4 #[.val (.ref a_GT_EQ), .val (.int 0), .val (.long p2), .second, .val (.long p3), .second] [(.ref a_IS_NULL), (.ref a_GT_EQ)])) X1 hx rfl rfl rfl (pc0 := 4) (pc' := 9) (same := false) rfl (hb hby d5_4) rfl (decide_eq_false fun q => f2 (Value.ref.inj q)) (by decide) (by decide) ?_
    refine XS.aloadN X1.here hx rfl (hb hby d5_9) rfl rfl ?_
    show Steps p.tables e below (T1.setTop (mkF m 10 #[.val (.ref a_GT_EQ), .val (.int 0), .val (.long p2), .second, .val (.long p3), .second] [(.ref a_GT_EQ)])) _
    refine st2 _ ?_
    show Steps p.tables e below (T2.setTop (mkF m 13 #[.val (.ref a_GT_EQ), .val (.int 0), .val (.long p2), .second, .val (.long p3), .second] [(.ref a_NOT_NULL), (.ref a_GT_EQ)])) _
    refine Jvm.RoadKit.acmp (g := (mkF m 13 #[.val (.ref a_GT_EQ), .val (.int 0), .val (.long p2), .second, .val (.long p3), .second] [(.ref a_NOT_NULL), (.ref a_GT_EQ)])) X2 hx rfl rfl rfl (pc0 := 13) (pc' := 26) (same := false) rfl (hb hby d5_13) rfl (decide_eq_false fun q => f4 (Value.ref.inj q)) (by decide) (by decide) ?_
    refine XS.aloadN X2.here hx rfl (hb hby d5_26) rfl rfl ?_
    show Steps p.tables e below (T2.setTop (mkF m 27 #[.val (.ref a_GT_EQ), .val (.int 0), .val (.long p2), .second, .val (.long p3), .second] [(.ref a_GT_EQ)])) _
    refine st3 _ ?_
    show Steps p.tables e below (T3.setTop (mkF m 30 #[.val (.ref a_GT_EQ), .val (.int 0), .val (.long p2), .second, .val (.long p3), .second] [(.ref a_EQ), (.ref a_GT_EQ)])) _
    refine Jvm.RoadKit.acmp (g := (mkF m 30 #[.val (.ref a_GT_EQ), .val (.int 0), .val (.long p2), .second, .val (.long p3), .second] [(.ref a_EQ), (.ref a_GT_EQ)])) X3 hx rfl rfl rfl (pc0 := 30) (pc' := 46) (same := false) rfl (hb hby d5_30) rfl (decide_eq_false fun q => (Ne.symm f6) (Value.ref.inj q)) (by decide) (by decide) ?_
    refine XS.aloadN X3.here hx rfl (hb hby d5_46) rfl rfl ?_
    show Steps p.tables e below (T3.setTop (mkF m 47 #[.val (.ref a_GT_EQ), .val (.int 0), .val (.long p2), .second, .val (.long p3), .second] [(.ref a_GT_EQ)])) _
    refine st4 _ ?_
    show Steps p.tables e below (T4.setTop (mkF m 50 #[.val (.ref a_GT_EQ), .val (.int 0), .val (.long p2), .second, .val (.long p3), .second] [(.ref a_NOT_EQ), (.ref a_GT_EQ)])) _
    refine Jvm.RoadKit.acmp (g := (mkF m 50 #[.val (.ref a_GT_EQ), .val (.int 0), .val (.long p2), .second, .val (.long p3), .second] [(.ref a_NOT_EQ), (.ref a_GT_EQ)])) X4 hx rfl rfl rfl (pc0 := 50) (pc' := 66) (same := false) rfl (hb hby d5_50) rfl (decide_eq_false fun q => (Ne.symm f8) (Value.ref.inj q)) (by decide) (by decide) ?_
    refine XS.aloadN X4.here hx rfl (hb hby d5_66) rfl rfl ?_
    show Steps p.tables e below (T4.setTop (mkF m 67 #[.val (.ref a_GT_EQ), .val (.int 0), .val (.long p2), .second, .val (.long p3), .second] [(.ref a_GT_EQ)])) _
    refine st5 _ ?_
    show Steps p.tables e below (T5.setTop (mkF m 70 #[.val (.ref a_GT_EQ), .val (.int 0), .val (.long p2), .second, .val (.long p3), .second] [(.ref a_LT), (.ref a_GT_EQ)])) _
    refine Jvm.RoadKit.acmp (g := (mkF m 70 #[.val (.ref a_GT_EQ), .val (.int 0), .val (.long p2), .second, .val (.long p3), .second] [(.ref a_LT), (.ref a_GT_EQ)])) X5 hx rfl rfl rfl (pc0 := 70) (pc' := 86) (same := false) rfl (hb hby d5_70) rfl (decide_eq_false fun q => (Ne.symm f10) (Value.ref.inj q)) (by decide) (by decide) ?_
    refine XS.aloadN X5.here hx rfl (hb hby d5_86) rfl rfl ?_
    show Steps p.tables e below (T5.setTop (mkF m 87 #[.val (.ref a_GT_EQ), .val (.int 0), .val (.long p2), .second, .val (.long p3), .second] [(.ref a_GT_EQ)])) _
    refine st6 _ ?_
    show Steps p.tables e below (T6.setTop (mkF m 90 #[.val (.ref a_GT_EQ), .val (.int 0), .val (.long p2), .second, .val (.long p3), .second] [(.ref a_LT_EQ), (.ref a_GT_EQ)])) _
    refine Jvm.RoadKit.acmp (g := (mkF m 90 #[.val (.ref a_GT_EQ), .val (.int 0), .val (.long p2), .second, .val (.long p3), .second] [(.ref a_LT_EQ), (.ref a_GT_EQ)])) X6 hx rfl rfl rfl (pc0 := 90) (pc' := 106) (same := false) rfl (hb hby d5_90) rfl (decide_eq_false fun q => f12 (Value.ref.inj q)) (by decide) (by decide) ?_
    refine XS.aloadN X6.here hx rfl (hb hby d5_106) rfl rfl ?_
    show Steps p.tables e below (T6.setTop (mkF m 107 #[.val (.ref a_GT_EQ), .val (.int 0), .val (.long p2), .second, .val (.long p3), .second] [(.ref a_GT_EQ)])) _
    refine st7 _ ?_
    show Steps p.tables e below (T7.setTop (mkF m 110 #[.val (.ref a_GT_EQ), .val (.int 0), .val (.long p2), .second, .val (.long p3), .second] [(.ref a_GT), (.ref a_GT_EQ)])) _
    refine Jvm.RoadKit.acmp (g := (mkF m 110 #[.val (.ref a_GT_EQ), .val (.int 0), .val (.long p2), .second, .val (.long p3), .second] [(.ref a_GT), (.ref a_GT_EQ)])) X7 hx rfl rfl rfl (pc0 := 110) (pc' := 126) (same := false) rfl (hb hby d5_110) rfl (decide_eq_false fun q => f14 (Value.ref.inj q)) (by decide) (by decide) ?_
    refine XS.aloadN X7.here hx rfl (hb hby d5_126) rfl rfl ?_
    show Steps p.tables e below (T7.setTop (mkF m 127 #[.val (.ref a_GT_EQ), .val (.int 0), .val (.long p2), .second, .val (.long p3), .second] [(.ref a_GT_EQ)])) _
    refine st8 _ ?_
    show Steps p.tables e below (T8.setTop (mkF m 130 #[.val (.ref a_GT_EQ), .val (.int 0), .val (.long p2), .second, .val (.long p3), .second] [(.ref a_GT_EQ), (.ref a_GT_EQ)])) _
    refine Jvm.RoadKit.acmp (g := (mkF m 130 #[.val (.ref a_GT_EQ), .val (.int 0), .val (.long p2), .second, .val (.long p3), .second] [(.ref a_GT_EQ), (.ref a_GT_EQ)])) X8 hx rfl rfl rfl (pc0 := 130) (pc' := 133) (same := true) rfl (hb hby d5_130) rfl (decide_eq_true rfl) (by decide) (by decide) ?_
    refine XS.lloadN X8.here hx rfl (hb hby d5_133) rfl ?_
    refine XS.lload X8.here hx rfl (hb hby d5_134) rfl ?_
    show Steps p.tables e below (T8.setTop (mkF m 136 #[.val (.ref a_GT_EQ), .val (.int 0), .val (.long p2), .second, .val (.long p3), .second] [(.long p3), (.long p2)])) _
    refine XS.lcmp X8.here hx rfl (hb hby d5_136) rfl ?_
    show Steps p.tables e below (T8.setTop (mkF m 137 #[.val (.ref a_GT_EQ), .val (.int 0), .val (.long p2), .second, .val (.long p3), .second] [(.int (lcmpW p2 p3))])) _
    rw [f16]
    refine XS.ifYes X8.here hx rfl (pc0 := 137) (pc' := 144) rfl (hb hby d5_137) rfl (by decide) (by decide) (by decide) ?_
    refine XS.iconst X8.here hx rfl (hb hby d5_144) ?_
    show Steps p.tables e below (T8.setTop (mkF m 145 #[.val (.ref a_GT_EQ), .val (.int 0), .val (.long p2), .second, .val (.long p3), .second] [(.int 0)])) _
    exact retN X8 hx (t := .boolean) Bd.returns (by simp) (hb hby d5_145) hr
  · show QP (some (.int 0)) h0 n0 _ T8.heap _
    rw [e8]
    exact ⟨rfl, N0, rfl⟩
theorem d5_73 : decode method_3_code 73 = .ok (.lload_n 2, 1) := by decide +kernel
theorem d5_74 : decode method_3_code 74 = .ok (.lload 4, 2) := by decide +kernel
theorem d5_76 : decode method_3_code 76 = .ok (.lcmp, 1) := by decide +kernel
theorem d5_77 : decode method_3_code 77 = .ok (.ifCond .ge 7, 3) := by decide +kernel
theorem d5_80 : decode method_3_code 80 = .ok (.iconst 1, 1) := by decide +kernel
theorem d5_81 : decode method_3_code 81 = .ok (.goto 4, 3) := by decide +kernel
theorem d5_85 : decode method_3_code 85 = .ok (.ireturn, 1) := by decide +kernel
set_option maxRecDepth 65536 in
set_option maxHeartbeats 40000000 in
theorem rm5_57 (l : Launch) (Z : State) (a0 : Array Value) (hw : ∀ d ∈ tables_1, d.before a0 Z = true) (ws : List Jvm.Cond) (a_LT : Addr) (p2 : Int64) (p3 : Int64) (a_IS_NULL : Addr) (a_NOT_NULL : Addr) (a_EQ : Addr) (a_NOT_EQ : Addr) (h0 : Heap) (n0 : Nat) (Z0 : n0 ≤ h0.size) (f1 : S_2 Z h0 (.ref a_IS_NULL)) (f2 : a_LT ≠ a_IS_NULL) (f3 : S_3 Z h0 (.ref a_NOT_NULL)) (f4 : a_LT ≠ a_NOT_NULL) (f5 : S_0 Z h0 (.ref a_EQ)) (f6 : a_EQ ≠ a_LT) (f7 : S_1 Z h0 (.ref a_NOT_EQ)) (f8 : a_NOT_EQ ≠ a_LT) (f9 : S_4 Z h0 (.ref a_LT)) (f10 : (lcmpW p2 p3) = (-1 : Int32)) :
    MetFree l M_5 (head1 (Jvm.Cond.code M_5 method_3_code 6 (some .boolean) :: ws) R_0_0_0_0) (fun a U => a = #[(.ref a_LT), (.int 0), (.long p2), (.long p3)] ∧ Z.Warmed39 U.vm ∧ U.heap = h0) (fun _ _ _ _ _ => True) (fun _ U o U' => ∃ v L, o = .returned v ∧ QP (some (.int 1)) h0 n0 v U'.heap L ∧ FrameEnd U o U' L R_0_0_0_0.cells R_0_0_0_0.slots) := by
  refine MetFree.of_bodySF (plainFor_of_name pn_com_example_floe_floe_OperationNegatePinLaw) hisR ?_
  intro p e s m args below meth c s₁ Bd hml0 hP hK
  obtain ⟨rfl, hZ, hh⟩ := hP
  have hx := Bd.exec
  have hby := Bd.bytes
  have hml : c.maxLocals = 6 := hml0
  have hown : s.vm.findClass "com/example/floe/floe/OperationNegatePinLaw" = some m.cls := findClass_of_methodNamed Bd.named
  have hnm := (name_of_methodNamed Bd.named Bd.method).1
  have X0 : Stand p l e R_0_0_0_0 s m #[(.ref a_LT), (.int 0), (.long p2), (.long p3)] below meth c s₁ [] 0 0 := Stand.of_body Bd
  have e0 : s₁.heap = h0 := by rw [← hh, Bd.state]; rfl
  have N0 := Fr.nil n0
  obtain ⟨T1, X1, e1, st1⟩ := getS2 X0 hx hZ hown (host := "") (Or.inl (tw_35 hw)) Via.refl e0 f1 (g := (mkF m 1 #[.val (.ref a_LT), .val (.int 0), .val (.long p2), .second, .val (.long p3), .second] [(.ref a_LT)])) rfl (hb hby d5_1)
  obtain ⟨T2, X2, e2, st2⟩ := getS2 X1 hx hZ hown (host := "") (Or.inl (tw_36 hw)) Via.refl e1 f3 (g := (mkF m 10 #[.val (.ref a_LT), .val (.int 0), .val (.long p2), .second, .val (.long p3), .second] [(.ref a_LT)])) rfl (hb hby d5_10)
  obtain ⟨T3, X3, e3, st3⟩ := getS2 X2 hx hZ hown (host := "") (Or.inl (tw_4 hw)) Via.refl e2 f5 (g := (mkF m 27 #[.val (.ref a_LT), .val (.int 0), .val (.long p2), .second, .val (.long p3), .second] [(.ref a_LT)])) rfl (hb hby d5_27)
  obtain ⟨T4, X4, e4, st4⟩ := getS2 X3 hx hZ hown (host := "") (Or.inl (tw_37 hw)) Via.refl e3 f7 (g := (mkF m 47 #[.val (.ref a_LT), .val (.int 0), .val (.long p2), .second, .val (.long p3), .second] [(.ref a_LT)])) rfl (hb hby d5_47)
  obtain ⟨T5, X5, e5, st5⟩ := getS2 X4 hx hZ hown (host := "") (Or.inl (tw_38 hw)) Via.refl e4 f9 (g := (mkF m 67 #[.val (.ref a_LT), .val (.int 0), .val (.long p2), .second, .val (.long p3), .second] [(.ref a_LT)])) rfl (hb hby d5_67)
  obtain ⟨fs, hr, hrun, hended, hW, hsame⟩ := X5.leave (v := (some (.int 1))) (fun h => by rw [Bd.returns] at h; cases h)
  refine ⟨_, _, castTop (ef5_RIJJ m a_LT (0 : Int32) p2 p3) ?_, hrun, hended, _, _, rfl, ?_, ⟨_, rfl⟩, hW, hsame.mono (by decide) (by decide)⟩
  · show Steps p.tables e below (s₁.setTop (mkF m 0 #[.val (.ref a_LT), .val (.int 0), .val (.long p2), .second, .val (.long p3), .second] [])) _
    refine XS.aloadN X0.here hx rfl (hb hby d5_0) rfl rfl ?_
    show Steps p.tables e below (s₁.setTop (mkF m 1 #[.val (.ref a_LT), .val (.int 0), .val (.long p2), .second, .val (.long p3), .second] [(.ref a_LT)])) _
    refine st1 _ ?_
    show Steps p.tables e below (T1.setTop (mkF m 4 #[.val (.ref a_LT), .val (.int 0), .val (.long p2), .second, .val (.long p3), .second] [(.ref a_IS_NULL), (.ref a_LT)])) _
    refine Jvm.RoadKit.acmp (g := (mkF m 4 #[.val (.ref a_LT), .val (.int 0), .val (.long p2), .second, .val (.long p3), .second] [(.ref a_IS_NULL), (.ref a_LT)])) X1 hx rfl rfl rfl (pc0 := 4) (pc' := 9) (same := false) rfl (hb hby d5_4) rfl (decide_eq_false fun q => f2 (Value.ref.inj q)) (by decide) (by decide) ?_
    refine XS.aloadN X1.here hx rfl (hb hby d5_9) rfl rfl ?_
    show Steps p.tables e below (T1.setTop (mkF m 10 #[.val (.ref a_LT), .val (.int 0), .val (.long p2), .second, .val (.long p3), .second] [(.ref a_LT)])) _
    refine st2 _ ?_
    show Steps p.tables e below (T2.setTop (mkF m 13 #[.val (.ref a_LT), .val (.int 0), .val (.long p2), .second, .val (.long p3), .second] [(.ref a_NOT_NULL), (.ref a_LT)])) _
    refine Jvm.RoadKit.acmp (g := (mkF m 13 #[.val (.ref a_LT), .val (.int 0), .val (.long p2), .second, .val (.long p3), .second] [(.ref a_NOT_NULL), (.ref a_LT)])) X2 hx rfl rfl rfl (pc0 := 13) (pc' := 26) (same := false) rfl (hb hby d5_13) rfl (decide_eq_false fun q => f4 (Value.ref.inj q)) (by decide) (by decide) ?_
    refine XS.aloadN X2.here hx rfl (hb hby d5_26) rfl rfl ?_
    show Steps p.tables e below (T2.setTop (mkF m 27 #[.val (.ref a_LT), .val (.int 0), .val (.long p2), .second, .val (.long p3), .second] [(.ref a_LT)])) _
    refine st3 _ ?_
    show Steps p.tables e below (T3.setTop (mkF m 30 #[.val (.ref a_LT), .val (.int 0), .val (.long p2), .second, .val (.long p3), .second] [(.ref a_EQ), (.ref a_LT)])) _
    refine Jvm.RoadKit.acmp (g := (mkF m 30 #[.val (.ref a_LT), .val (.int 0), .val (.long p2), .second, .val (.long p3), .second] [(.ref a_EQ), (.ref a_LT)])) X3 hx rfl rfl rfl (pc0 := 30) (pc' := 46) (same := false) rfl (hb hby d5_30) rfl (decide_eq_false fun q => (Ne.symm f6) (Value.ref.inj q)) (by decide) (by decide) ?_
    refine XS.aloadN X3.here hx rfl (hb hby d5_46) rfl rfl ?_
    show Steps p.tables e below (T3.setTop (mkF m 47 #[.val (.ref a_LT), .val (.int 0), .val (.long p2), .second, .val (.long p3), .second] [(.ref a_LT)])) _
    refine st4 _ ?_
    show Steps p.tables e below (T4.setTop (mkF m 50 #[.val (.ref a_LT), .val (.int 0), .val (.long p2), .second, .val (.long p3), .second] [(.ref a_NOT_EQ), (.ref a_LT)])) _
    refine Jvm.RoadKit.acmp (g := (mkF m 50 #[.val (.ref a_LT), .val (.int 0), .val (.long p2), .second, .val (.long p3), .second] [(.ref a_NOT_EQ), (.ref a_LT)])) X4 hx rfl rfl rfl (pc0 := 50) (pc' := 66) (same := false) rfl (hb hby d5_50) rfl (decide_eq_false fun q => (Ne.symm f8) (Value.ref.inj q)) (by decide) (by decide) ?_
    refine XS.aloadN X4.here hx rfl (hb hby d5_66) rfl rfl ?_
    show Steps p.tables e below (T4.setTop (mkF m 67 #[.val (.ref a_LT), .val (.int 0), .val (.long p2), .second, .val (.long p3), .second] [(.ref a_LT)])) _
    refine st5 _ ?_
    show Steps p.tables e below (T5.setTop (mkF m 70 #[.val (.ref a_LT), .val (.int 0), .val (.long p2), .second, .val (.long p3), .second] [(.ref a_LT), (.ref a_LT)])) _
    refine Jvm.RoadKit.acmp (g := (mkF m 70 #[.val (.ref a_LT), .val (.int 0), .val (.long p2), .second, .val (.long p3), .second] [(.ref a_LT), (.ref a_LT)])) X5 hx rfl rfl rfl (pc0 := 70) (pc' := 73) (same := true) rfl (hb hby d5_70) rfl (decide_eq_true rfl) (by decide) (by decide) ?_
    refine XS.lloadN X5.here hx rfl (hb hby d5_73) rfl ?_
    refine XS.lload X5.here hx rfl (hb hby d5_74) rfl ?_
    show Steps p.tables e below (T5.setTop (mkF m 76 #[.val (.ref a_LT), .val (.int 0), .val (.long p2), .second, .val (.long p3), .second] [(.long p3), (.long p2)])) _
    refine XS.lcmp X5.here hx rfl (hb hby d5_76) rfl ?_
    show Steps p.tables e below (T5.setTop (mkF m 77 #[.val (.ref a_LT), .val (.int 0), .val (.long p2), .second, .val (.long p3), .second] [(.int (lcmpW p2 p3))])) _
    rw [f10]
    refine XS.ifNo X5.here hx rfl (hb hby d5_77) rfl (by decide) ?_
    refine XS.iconst X5.here hx rfl (hb hby d5_80) ?_
    refine XS.goto X5.here hx rfl (pc0 := 81) (pc' := 85) rfl (hb hby d5_81) (by decide) (by decide) ?_
    show Steps p.tables e below (T5.setTop (mkF m 85 #[.val (.ref a_LT), .val (.int 0), .val (.long p2), .second, .val (.long p3), .second] [(.int 1)])) _
    exact retN X5 hx (t := .boolean) Bd.returns (by simp) (hb hby d5_85) hr
  · show QP (some (.int 1)) h0 n0 _ T5.heap _
    rw [e5]
    exact ⟨rfl, N0, rfl⟩
set_option maxRecDepth 65536 in
set_option maxHeartbeats 40000000 in
theorem rm0_58 (l : Launch) (Z : State) (a0 : Array Value) (hw : ∀ d ∈ tables_1, d.before a0 Z = true) (ws : List Jvm.Cond) (p0 : Int32) (p1 : Int32) (p2 : Int64) (p3 : Int64) (a_LT : Addr) (a_GT_EQ : Addr) (a_IS_NULL : Addr) (a_NOT_NULL : Addr) (a_EQ : Addr) (a_NOT_EQ : Addr) (a_LT_EQ : Addr) (a_GT : Addr) (h0 : Heap) (n0 : Nat) (Z0 : n0 ≤ h0.size) (f1 : (p0 &&& (7 : Int32)) = (2 : Int32)) (f2 : S_4 Z h0 (.ref a_LT)) (f3 : F_0 Z h0 a_LT (.int 2)) (f4 : E_0 Z h0 a_LT) (f5 : S_5 Z h0 (.ref a_GT_EQ)) (f6 : S_2 Z h0 (.ref a_IS_NULL)) (f7 : a_IS_NULL ≠ a_LT) (f8 : S_3 Z h0 (.ref a_NOT_NULL)) (f9 : a_NOT_NULL ≠ a_LT) (f10 : a_IS_NULL ≠ a_GT_EQ) (f11 : a_NOT_NULL ≠ a_GT_EQ) (f12 : E_0 Z h0 a_GT_EQ) (f13 : S_0 Z h0 (.ref a_EQ)) (f14 : a_EQ ≠ a_GT_EQ) (f15 : S_1 Z h0 (.ref a_NOT_EQ)) (f16 : a_NOT_EQ ≠ a_GT_EQ) (f17 : a_LT ≠ a_GT_EQ) (f18 : S_6 Z h0 (.ref a_LT_EQ)) (f19 : a_GT_EQ ≠ a_LT_EQ) (f20 : S_7 Z h0 (.ref a_GT)) (f21 : a_GT_EQ ≠ a_GT) (f22 : (lcmpW p2 p3) = (-1 : Int32)) (f23 : a_EQ ≠ a_LT) (f24 : a_NOT_EQ ≠ a_LT) :
    MetFree l x (head1 (Jvm.Cond.code x code maxLocals ret :: ws) room_1) (fun a U => a = #[(.int p0), (.int p1), (.long p2), (.long p3)] ∧ Z.Warmed39 U.vm ∧ U.heap = h0) (fun _ _ _ _ _ => True) (fun _ U o U' => ∃ v L, o = .returned v ∧ QT n0 v U'.heap L ∧ FrameEnd U o U' L room_1.cells room_1.slots) := by
  refine MetFree.of_bodySF (plainFor_of_name pn_com_example_floe_floe_OperationNegatePinLaw) hisR ?_
  intro p e s m args below meth c s₁ Bd hml0 hP hK
  obtain ⟨rfl, hZ, hh⟩ := hP
  have hx := Bd.exec
  have hby := Bd.bytes
  have hml : c.maxLocals = 10 := hml0
  have hown : s.vm.findClass "com/example/floe/floe/OperationNegatePinLaw" = some m.cls := findClass_of_methodNamed Bd.named
  have hnm := (name_of_methodNamed Bd.named Bd.method).1
  have X0 : Stand p l e room_1 s m #[(.int p0), (.int p1), (.long p2), (.long p3)] below meth c s₁ [] 0 0 := Stand.of_body Bd
  have e0 : s₁.heap = h0 := by rw [← hh, Bd.state]; rfl
  have N0 := Fr.nil n0
  -- pc 1: com/example/floe/floe/OperationNegatePinLaw.pick
  obtain ⟨_, _, ⟨T1, L1, k1, n1⟩, -, X1, ⟨Lc1, hQ1, l1, y1, z1⟩, st1⟩ := Jvm.LawKit.callS X0 hx (y := M_0) hown (mvT hZ (tw_0 hw)) (mvT hZ (tw_1 hw)) (mvT hZ (tw_2 hw)) (mvT hZ (tw_3 hw)) (by decide) (backOf (W := 0) (rm1_51 l Z a0 hw [] p0 a_LT h0 n0 Z0 f1 f2) hZ (tw_3 hw) (tw_2 hw) (by decide) (by decide)) (g := (mkF m 1 #[.val (.int p0), .val (.int p1), .val (.long p2), .second, .val (.long p3), .second, .unset, .unset, .unset, .unset] [(.int p0)])) rfl (by rw [hml]; rfl) (argsL := [(.int p0)]) (rest := []) (lenOf pd_0 rfl) rfl (by show 2 * 0 + _ ≤ _; exact Nat.le_of_eq rfl) (hb hby at_1) (fun _ _ => ⟨rfl, e0, (by decide : 0 + 0 ≤ _), (by decide : 0 + 0 ≤ _)⟩)
  dsimp only [Pt.U, Pt.locs, Pt.cells, Pt.slots] at X1 l1 y1 z1 st1 hQ1
  subst l1 y1 z1
  obtain ⟨rfl, Nq1, e1⟩ := hQ1
  have N1 := Fr.app N0 Nq1
  -- pc 8: com/example/floe/floe/Expression$Operation.negate
  obtain ⟨cq2, kq2, q2a, q2b, q2c⟩ := isOf hZ e1 f4
  obtain ⟨_, _, ⟨T2, L2, k2, n2⟩, -, X2, ⟨Lc2, hQ2, l2, y2, z2⟩, st2⟩ := X1.virtualBack hx (y := M_3) (z := M_3) hown (mvT hZ (tw_7 hw)) (mvT hZ (tw_8 hw)) (notFace_of_selects (args := #[]) (mvT hZ (tw_10 hw))) (mvT hZ (tw_10 hw)) (mvT hZ (tw_9 hw)) (by decide) (backOf (W := 0) (rm2_53 l Z a0 hw [] a_LT a_GT_EQ h0 n0 Z0 f3 f4 f5) hZ (tw_11 hw) (tw_5 hw) (by decide) (by decide)) q2a q2c (g := (mkF m 8 #[.val (.int p0), .val (.int p1), .val (.long p2), .second, .val (.long p3), .second, .val (.ref a_LT), .unset, .unset, .unset] [(.ref a_LT)])) rfl (by rw [hml]; rfl) (Steps.refl _) (argsL := []) (rest := []) (lenOf pd_2 rfl) rfl (by show 2 * 0 + _ ≤ _; exact Nat.le_of_eq rfl) (hb hby at_8) (fun _ _ => ⟨rfl, e1, (by decide : 0 + 0 ≤ _), (by decide : 0 + 0 ≤ _)⟩)
  dsimp only [Pt.U, Pt.locs, Pt.cells, Pt.slots] at X2 l2 y2 z2 st2 hQ2
  subst l2 y2 z2
  obtain ⟨rfl, Nq2, e2⟩ := hQ2
  have N2 := Fr.app N1 Nq2
  -- pc 22: com/example/floe/floe/Expression$Operation.compares
  obtain ⟨cq3, kq3, q3a, q3b, q3c⟩ := isOf hZ e2 f4
  obtain ⟨_, _, ⟨T3, L3, k3, n3⟩, -, X3, ⟨Lc3, hQ3, l3, y3, z3⟩, st3⟩ := X2.virtualBack hx (y := M_4) (z := M_4) hown (mvT hZ (tw_23 hw)) (mvT hZ (tw_24 hw)) (notFace_of_selects (args := #[]) (mvT hZ (tw_26 hw))) (mvT hZ (tw_26 hw)) (mvT hZ (tw_25 hw)) (by decide) (backOf (W := 0) (rm4_54 l Z a0 hw [] a_LT a_IS_NULL a_NOT_NULL h0 n0 Z0 f6 f7 f8 f9) hZ (tw_27 hw) (tw_5 hw) (by decide) (by decide)) q3a q3c (g := (mkF m 22 #[.val (.int p0), .val (.int p1), .val (.long p2), .second, .val (.long p3), .second, .val (.ref a_LT), .val (.ref a_GT_EQ), .unset, .unset] [(.ref a_LT)])) rfl (by rw [hml]; rfl) (Steps.refl _) (argsL := []) (rest := []) (lenOf pd_3 rfl) rfl (by show 2 * 0 + _ ≤ _; exact Nat.le_of_eq rfl) (hb hby at_22) (fun _ _ => ⟨rfl, e2, (by decide : 0 + 0 ≤ _), (by decide : 0 + 0 ≤ _)⟩)
  dsimp only [Pt.U, Pt.locs, Pt.cells, Pt.slots] at X3 l3 y3 z3 st3 hQ3
  subst l3 y3 z3
  obtain ⟨rfl, Nq3, e3⟩ := hQ3
  have N3 := Fr.app N2 Nq3
  -- pc 51: com/example/floe/floe/Expression$Operation.compares
  obtain ⟨cq4, kq4, q4a, q4b, q4c⟩ := isOf hZ e3 f12
  obtain ⟨_, _, ⟨T4, L4, k4, n4⟩, -, X4, ⟨Lc4, hQ4, l4, y4, z4⟩, st4⟩ := X3.virtualBack hx (y := M_4) (z := M_4) hown (mvT hZ (tw_23 hw)) (mvT hZ (tw_24 hw)) (notFace_of_selects (args := #[]) (mvT hZ (tw_26 hw))) (mvT hZ (tw_26 hw)) (mvT hZ (tw_25 hw)) (by decide) (backOf (W := 0) (rm4_55 l Z a0 hw [] a_GT_EQ a_IS_NULL a_NOT_NULL h0 n0 Z0 f6 f10 f8 f11) hZ (tw_27 hw) (tw_5 hw) (by decide) (by decide)) q4a q4c (g := (mkF m 51 #[.val (.int p0), .val (.int p1), .val (.long p2), .second, .val (.long p3), .second, .val (.ref a_LT), .val (.ref a_GT_EQ), .val (.int 1), .val (.int 0)] [(.ref a_GT_EQ)])) rfl (by rw [hml]; rfl) (Steps.refl _) (argsL := []) (rest := []) (lenOf pd_3 rfl) rfl (by show 2 * 0 + _ ≤ _; exact Nat.le_of_eq rfl) (hb hby at_51) (fun _ _ => ⟨rfl, e3, (by decide : 0 + 0 ≤ _), (by decide : 0 + 0 ≤ _)⟩)
  dsimp only [Pt.U, Pt.locs, Pt.cells, Pt.slots] at X4 l4 y4 z4 st4 hQ4
  subst l4 y4 z4
  obtain ⟨rfl, Nq4, e4⟩ := hQ4
  have N4 := Fr.app N3 Nq4
  -- pc 68: com/example/floe/floe/OperationNegatePinLaw.holds
  obtain ⟨_, _, ⟨T5, L5, k5, n5⟩, -, X5, ⟨Lc5, hQ5, l5, y5, z5⟩, st5⟩ := Jvm.LawKit.callS X4 hx (y := M_5) hown (mvT hZ (tw_32 hw)) (mvT hZ (tw_33 hw)) (mvT hZ (tw_2 hw)) (mvT hZ (tw_34 hw)) (by decide) (backOf (W := 0) (rm5_56 l Z a0 hw [] a_GT_EQ p2 p3 a_IS_NULL a_NOT_NULL a_EQ a_NOT_EQ a_LT a_LT_EQ a_GT h0 n0 Z0 f6 (Ne.symm f10) f8 (Ne.symm f11) f13 f14 f15 f16 f2 f17 f18 f19 f20 f21 f5 f22) hZ (tw_34 hw) (tw_2 hw) (by decide) (by decide)) (g := (mkF m 68 #[.val (.int p0), .val (.int p1), .val (.long p2), .second, .val (.long p3), .second, .val (.ref a_LT), .val (.ref a_GT_EQ), .val (.int 1), .val (.int 0)] [(.long p3), (.long p2), (.int 0), (.ref a_GT_EQ)])) rfl (by rw [hml]; rfl) (argsL := [(.ref a_GT_EQ), (.int 0), (.long p2), (.long p3)]) (rest := []) (lenOf pd_4 rfl) rfl (by show 2 * 0 + _ ≤ _; exact Nat.le_of_eq rfl) (hb hby at_68) (fun _ _ => ⟨rfl, e4, (by decide : 0 + 0 ≤ _), (by decide : 0 + 0 ≤ _)⟩)
  dsimp only [Pt.U, Pt.locs, Pt.cells, Pt.slots] at X5 l5 y5 z5 st5 hQ5
  subst l5 y5 z5
  obtain ⟨rfl, Nq5, e5⟩ := hQ5
  have N5 := Fr.app N4 Nq5
  -- pc 78: com/example/floe/floe/OperationNegatePinLaw.holds
  obtain ⟨_, _, ⟨T6, L6, k6, n6⟩, -, X6, ⟨Lc6, hQ6, l6, y6, z6⟩, st6⟩ := Jvm.LawKit.callS X5 hx (y := M_5) hown (mvT hZ (tw_32 hw)) (mvT hZ (tw_33 hw)) (mvT hZ (tw_2 hw)) (mvT hZ (tw_34 hw)) (by decide) (backOf (W := 1) (rm5_57 l Z a0 hw [] a_LT p2 p3 a_IS_NULL a_NOT_NULL a_EQ a_NOT_EQ h0 n0 Z0 f6 (Ne.symm f7) f8 (Ne.symm f9) f13 f23 f15 f24 f2 f22) hZ (tw_34 hw) (tw_2 hw) (by decide) (by decide)) (g := (mkF m 78 #[.val (.int p0), .val (.int p1), .val (.long p2), .second, .val (.long p3), .second, .val (.ref a_LT), .val (.ref a_GT_EQ), .val (.int 1), .val (.int 0)] [(.long p3), (.long p2), (.int 0), (.ref a_LT), (.int 0)])) rfl (by rw [hml]; rfl) (argsL := [(.ref a_LT), (.int 0), (.long p2), (.long p3)]) (rest := [(.int 0)]) (lenOf pd_4 rfl) rfl (by show 2 * 0 + _ ≤ _; exact Nat.le_of_eq rfl) (hb hby at_78) (fun _ _ => ⟨rfl, e5, (by decide : 0 + 0 ≤ _), (by decide : 0 + 0 ≤ _)⟩)
  dsimp only [Pt.U, Pt.locs, Pt.cells, Pt.slots] at X6 l6 y6 z6 st6 hQ6
  subst l6 y6 z6
  obtain ⟨rfl, Nq6, e6⟩ := hQ6
  have N6 := Fr.app N5 Nq6
  obtain ⟨fs, hr, hrun, hended, hW, hsame⟩ := X6.leave (v := (some (.int 1))) (fun h => by rw [Bd.returns] at h; cases h)
  refine ⟨_, _, castTop (ef0_IIJJ m p0 p1 p2 p3) ?_, hrun, hended, _, _, rfl, ?_, ⟨_, rfl⟩, hW, hsame.mono (by decide) (by decide)⟩
  · show Steps p.tables e below (s₁.setTop (mkF m 0 #[.val (.int p0), .val (.int p1), .val (.long p2), .second, .val (.long p3), .second, .unset, .unset, .unset, .unset] [])) _
    refine XS.iloadN X0.here hx rfl (hb hby at_0) rfl ?_
    show Steps p.tables e below (s₁.setTop (mkF m 1 #[.val (.int p0), .val (.int p1), .val (.long p2), .second, .val (.long p3), .second, .unset, .unset, .unset, .unset] [(.int p0)])) _
    refine st1 _ ?_
    refine XS.astore X1.here hx rfl (hb hby at_4) rfl rfl (l' := #[.val (.int p0), .val (.int p1), .val (.long p2), .second, .val (.long p3), .second, .val (.ref a_LT), .unset, .unset, .unset]) rfl ?_
    refine XS.aload X1.here hx rfl (hb hby at_6) rfl rfl ?_
    show Steps p.tables e below (T1.setTop (mkF m 8 #[.val (.int p0), .val (.int p1), .val (.long p2), .second, .val (.long p3), .second, .val (.ref a_LT), .unset, .unset, .unset] [(.ref a_LT)])) _
    refine st2.trans ?_
    refine XS.astore X2.here hx rfl (hb hby at_11) rfl rfl (l' := #[.val (.int p0), .val (.int p1), .val (.long p2), .second, .val (.long p3), .second, .val (.ref a_LT), .val (.ref a_GT_EQ), .unset, .unset]) rfl ?_
    refine XS.aload X2.here hx rfl (hb hby at_13) rfl rfl ?_
    refine XS.ifnonnullYes X2.here hx rfl (pc0 := 15) (pc' := 20) rfl (hb hby at_15) rfl (by decide) (by decide) ?_
    refine XS.aload X2.here hx rfl (hb hby at_20) rfl rfl ?_
    show Steps p.tables e below (T2.setTop (mkF m 22 #[.val (.int p0), .val (.int p1), .val (.long p2), .second, .val (.long p3), .second, .val (.ref a_LT), .val (.ref a_GT_EQ), .unset, .unset] [(.ref a_LT)])) _
    refine st3.trans ?_
    refine XS.istore X3.here hx rfl (hb hby at_25) rfl (l' := #[.val (.int p0), .val (.int p1), .val (.long p2), .second, .val (.long p3), .second, .val (.ref a_LT), .val (.ref a_GT_EQ), .val (.int 1), .unset]) rfl ?_
    refine XS.iload X3.here hx rfl (hb hby at_27) rfl ?_
    refine XS.ifNo X3.here hx rfl (hb hby at_29) rfl (by decide) ?_
    refine XS.iconst X3.here hx rfl (hb hby at_32) ?_
    show Steps p.tables e below (T3.setTop (mkF m 33 #[.val (.int p0), .val (.int p1), .val (.long p2), .second, .val (.long p3), .second, .val (.ref a_LT), .val (.ref a_GT_EQ), .val (.int 1), .unset] [(.int 0)])) _
    refine XS.goto X3.here hx rfl (pc0 := 33) (pc' := 47) rfl (hb hby at_33) (by decide) (by decide) ?_
    refine XS.istore X3.here hx rfl (hb hby at_47) rfl (l' := #[.val (.int p0), .val (.int p1), .val (.long p2), .second, .val (.long p3), .second, .val (.ref a_LT), .val (.ref a_GT_EQ), .val (.int 1), .val (.int 0)]) rfl ?_
    refine XS.aload X3.here hx rfl (hb hby at_49) rfl rfl ?_
    show Steps p.tables e below (T3.setTop (mkF m 51 #[.val (.int p0), .val (.int p1), .val (.long p2), .second, .val (.long p3), .second, .val (.ref a_LT), .val (.ref a_GT_EQ), .val (.int 1), .val (.int 0)] [(.ref a_GT_EQ)])) _
    refine st4.trans ?_
    refine XS.iload X4.here hx rfl (hb hby at_54) rfl ?_
    refine XS.icmpYes X4.here hx rfl (pc0 := 56) (pc' := 61) rfl (hb hby at_56) rfl (by decide) (by decide) (by decide) ?_
    refine XS.aload X4.here hx rfl (hb hby at_61) rfl rfl ?_
    refine XS.iload X4.here hx rfl (hb hby at_63) rfl ?_
    show Steps p.tables e below (T4.setTop (mkF m 65 #[.val (.int p0), .val (.int p1), .val (.long p2), .second, .val (.long p3), .second, .val (.ref a_LT), .val (.ref a_GT_EQ), .val (.int 1), .val (.int 0)] [(.int 0), (.ref a_GT_EQ)])) _
    refine XS.lloadN X4.here hx rfl (hb hby at_65) rfl ?_
    refine XS.lload X4.here hx rfl (hb hby at_66) rfl ?_
    show Steps p.tables e below (T4.setTop (mkF m 68 #[.val (.int p0), .val (.int p1), .val (.long p2), .second, .val (.long p3), .second, .val (.ref a_LT), .val (.ref a_GT_EQ), .val (.int 1), .val (.int 0)] [(.long p3), (.long p2), (.int 0), (.ref a_GT_EQ)])) _
    refine st5 _ ?_
    refine XS.aload X5.here hx rfl (hb hby at_71) rfl rfl ?_
    refine XS.iload X5.here hx rfl (hb hby at_73) rfl ?_
    refine XS.lloadN X5.here hx rfl (hb hby at_75) rfl ?_
    refine XS.lload X5.here hx rfl (hb hby at_76) rfl ?_
    show Steps p.tables e below (T5.setTop (mkF m 78 #[.val (.int p0), .val (.int p1), .val (.long p2), .second, .val (.long p3), .second, .val (.ref a_LT), .val (.ref a_GT_EQ), .val (.int 1), .val (.int 0)] [(.long p3), (.long p2), (.int 0), (.ref a_LT), (.int 0)])) _
    refine st6 _ ?_
    refine XS.icmpNo X6.here hx rfl (hb hby at_81) rfl (by decide) ?_
    refine XS.iconst X6.here hx rfl (hb hby at_84) ?_
    refine XS.goto X6.here hx rfl (pc0 := 85) (pc' := 89) rfl (hb hby at_85) (by decide) (by decide) ?_
    show Steps p.tables e below (T6.setTop (mkF m 89 #[.val (.int p0), .val (.int p1), .val (.long p2), .second, .val (.long p3), .second, .val (.ref a_LT), .val (.ref a_GT_EQ), .val (.int 1), .val (.int 0)] [(.int 1)])) _
    exact retN X6 hx (t := .boolean) Bd.returns (by simp) (hb hby at_89) hr
  · show QT n0 _ T6.heap _
    rw [e6]
    exact ⟨rfl, N6⟩
theorem d5_140 : decode method_3_code 140 = .ok (.iconst 1, 1) := by decide +kernel
theorem d5_141 : decode method_3_code 141 = .ok (.goto 4, 3) := by decide +kernel
set_option maxRecDepth 65536 in
set_option maxHeartbeats 40000000 in
theorem rm5_59 (l : Launch) (Z : State) (a0 : Array Value) (hw : ∀ d ∈ tables_1, d.before a0 Z = true) (ws : List Jvm.Cond) (a_GT_EQ : Addr) (p2 : Int64) (p3 : Int64) (a_IS_NULL : Addr) (a_NOT_NULL : Addr) (a_EQ : Addr) (a_NOT_EQ : Addr) (a_LT : Addr) (a_LT_EQ : Addr) (a_GT : Addr) (h0 : Heap) (n0 : Nat) (Z0 : n0 ≤ h0.size) (f1 : S_2 Z h0 (.ref a_IS_NULL)) (f2 : a_GT_EQ ≠ a_IS_NULL) (f3 : S_3 Z h0 (.ref a_NOT_NULL)) (f4 : a_GT_EQ ≠ a_NOT_NULL) (f5 : S_0 Z h0 (.ref a_EQ)) (f6 : a_EQ ≠ a_GT_EQ) (f7 : S_1 Z h0 (.ref a_NOT_EQ)) (f8 : a_NOT_EQ ≠ a_GT_EQ) (f9 : S_4 Z h0 (.ref a_LT)) (f10 : a_LT ≠ a_GT_EQ) (f11 : S_6 Z h0 (.ref a_LT_EQ)) (f12 : a_GT_EQ ≠ a_LT_EQ) (f13 : S_7 Z h0 (.ref a_GT)) (f14 : a_GT_EQ ≠ a_GT) (f15 : S_5 Z h0 (.ref a_GT_EQ)) (f16 : (lcmpW p2 p3) = (0 : Int32)) :
    MetFree l M_5 (head1 (Jvm.Cond.code M_5 method_3_code 6 (some .boolean) :: ws) R_0_0_0_0) (fun a U => a = #[(.ref a_GT_EQ), (.int 0), (.long p2), (.long p3)] ∧ Z.Warmed39 U.vm ∧ U.heap = h0) (fun _ _ _ _ _ => True) (fun _ U o U' => ∃ v L, o = .returned v ∧ QP (some (.int 1)) h0 n0 v U'.heap L ∧ FrameEnd U o U' L R_0_0_0_0.cells R_0_0_0_0.slots) := by
  refine MetFree.of_bodySF (plainFor_of_name pn_com_example_floe_floe_OperationNegatePinLaw) hisR ?_
  intro p e s m args below meth c s₁ Bd hml0 hP hK
  obtain ⟨rfl, hZ, hh⟩ := hP
  have hx := Bd.exec
  have hby := Bd.bytes
  have hml : c.maxLocals = 6 := hml0
  have hown : s.vm.findClass "com/example/floe/floe/OperationNegatePinLaw" = some m.cls := findClass_of_methodNamed Bd.named
  have hnm := (name_of_methodNamed Bd.named Bd.method).1
  have X0 : Stand p l e R_0_0_0_0 s m #[(.ref a_GT_EQ), (.int 0), (.long p2), (.long p3)] below meth c s₁ [] 0 0 := Stand.of_body Bd
  have e0 : s₁.heap = h0 := by rw [← hh, Bd.state]; rfl
  have N0 := Fr.nil n0
  obtain ⟨T1, X1, e1, st1⟩ := getS2 X0 hx hZ hown (host := "") (Or.inl (tw_35 hw)) Via.refl e0 f1 (g := (mkF m 1 #[.val (.ref a_GT_EQ), .val (.int 0), .val (.long p2), .second, .val (.long p3), .second] [(.ref a_GT_EQ)])) rfl (hb hby d5_1)
  obtain ⟨T2, X2, e2, st2⟩ := getS2 X1 hx hZ hown (host := "") (Or.inl (tw_36 hw)) Via.refl e1 f3 (g := (mkF m 10 #[.val (.ref a_GT_EQ), .val (.int 0), .val (.long p2), .second, .val (.long p3), .second] [(.ref a_GT_EQ)])) rfl (hb hby d5_10)
  obtain ⟨T3, X3, e3, st3⟩ := getS2 X2 hx hZ hown (host := "") (Or.inl (tw_4 hw)) Via.refl e2 f5 (g := (mkF m 27 #[.val (.ref a_GT_EQ), .val (.int 0), .val (.long p2), .second, .val (.long p3), .second] [(.ref a_GT_EQ)])) rfl (hb hby d5_27)
  obtain ⟨T4, X4, e4, st4⟩ := getS2 X3 hx hZ hown (host := "") (Or.inl (tw_37 hw)) Via.refl e3 f7 (g := (mkF m 47 #[.val (.ref a_GT_EQ), .val (.int 0), .val (.long p2), .second, .val (.long p3), .second] [(.ref a_GT_EQ)])) rfl (hb hby d5_47)
  obtain ⟨T5, X5, e5, st5⟩ := getS2 X4 hx hZ hown (host := "") (Or.inl (tw_38 hw)) Via.refl e4 f9 (g := (mkF m 67 #[.val (.ref a_GT_EQ), .val (.int 0), .val (.long p2), .second, .val (.long p3), .second] [(.ref a_GT_EQ)])) rfl (hb hby d5_67)
  obtain ⟨T6, X6, e6, st6⟩ := getS2 X5 hx hZ hown (host := "") (Or.inl (tw_42 hw)) Via.refl e5 f11 (g := (mkF m 87 #[.val (.ref a_GT_EQ), .val (.int 0), .val (.long p2), .second, .val (.long p3), .second] [(.ref a_GT_EQ)])) rfl (hb hby d5_87)
  obtain ⟨T7, X7, e7, st7⟩ := getS2 X6 hx hZ hown (host := "") (Or.inl (tw_44 hw)) Via.refl e6 f13 (g := (mkF m 107 #[.val (.ref a_GT_EQ), .val (.int 0), .val (.long p2), .second, .val (.long p3), .second] [(.ref a_GT_EQ)])) rfl (hb hby d5_107)
  obtain ⟨T8, X8, e8, st8⟩ := getS2 X7 hx hZ hown (host := "") (Or.inl (tw_46 hw)) Via.refl e7 f15 (g := (mkF m 127 #[.val (.ref a_GT_EQ), .val (.int 0), .val (.long p2), .second, .val (.long p3), .second] [(.ref a_GT_EQ)])) rfl (hb hby d5_127)
  obtain ⟨fs, hr, hrun, hended, hW, hsame⟩ := X8.leave (v := (some (.int 1))) (fun h => by rw [Bd.returns] at h; cases h)
  refine ⟨_, _, castTop (ef5_RIJJ m a_GT_EQ (0 : Int32) p2 p3) ?_, hrun, hended, _, _, rfl, ?_, ⟨_, rfl⟩, hW, hsame.mono (by decide) (by decide)⟩
  · show Steps p.tables e below (s₁.setTop (mkF m 0 #[.val (.ref a_GT_EQ), .val (.int 0), .val (.long p2), .second, .val (.long p3), .second] [])) _
    refine XS.aloadN X0.here hx rfl (hb hby d5_0) rfl rfl ?_
    show Steps p.tables e below (s₁.setTop (mkF m 1 #[.val (.ref a_GT_EQ), .val (.int 0), .val (.long p2), .second, .val (.long p3), .second] [(.ref a_GT_EQ)])) _
    refine st1 _ ?_
    show Steps p.tables e below (T1.setTop (mkF m 4 #[.val (.ref a_GT_EQ), .val (.int 0), .val (.long p2), .second, .val (.long p3), .second] [(.ref a_IS_NULL), (.ref a_GT_EQ)])) _
    refine Jvm.RoadKit.acmp (g := (mkF m 4 #[.val (.ref a_GT_EQ), .val (.int 0), .val (.long p2), .second, .val (.long p3), .second] [(.ref a_IS_NULL), (.ref a_GT_EQ)])) X1 hx rfl rfl rfl (pc0 := 4) (pc' := 9) (same := false) rfl (hb hby d5_4) rfl (decide_eq_false fun q => f2 (Value.ref.inj q)) (by decide) (by decide) ?_
    refine XS.aloadN X1.here hx rfl (hb hby d5_9) rfl rfl ?_
    show Steps p.tables e below (T1.setTop (mkF m 10 #[.val (.ref a_GT_EQ), .val (.int 0), .val (.long p2), .second, .val (.long p3), .second] [(.ref a_GT_EQ)])) _
    refine st2 _ ?_
    show Steps p.tables e below (T2.setTop (mkF m 13 #[.val (.ref a_GT_EQ), .val (.int 0), .val (.long p2), .second, .val (.long p3), .second] [(.ref a_NOT_NULL), (.ref a_GT_EQ)])) _
    refine Jvm.RoadKit.acmp (g := (mkF m 13 #[.val (.ref a_GT_EQ), .val (.int 0), .val (.long p2), .second, .val (.long p3), .second] [(.ref a_NOT_NULL), (.ref a_GT_EQ)])) X2 hx rfl rfl rfl (pc0 := 13) (pc' := 26) (same := false) rfl (hb hby d5_13) rfl (decide_eq_false fun q => f4 (Value.ref.inj q)) (by decide) (by decide) ?_
    refine XS.aloadN X2.here hx rfl (hb hby d5_26) rfl rfl ?_
    show Steps p.tables e below (T2.setTop (mkF m 27 #[.val (.ref a_GT_EQ), .val (.int 0), .val (.long p2), .second, .val (.long p3), .second] [(.ref a_GT_EQ)])) _
    refine st3 _ ?_
    show Steps p.tables e below (T3.setTop (mkF m 30 #[.val (.ref a_GT_EQ), .val (.int 0), .val (.long p2), .second, .val (.long p3), .second] [(.ref a_EQ), (.ref a_GT_EQ)])) _
    refine Jvm.RoadKit.acmp (g := (mkF m 30 #[.val (.ref a_GT_EQ), .val (.int 0), .val (.long p2), .second, .val (.long p3), .second] [(.ref a_EQ), (.ref a_GT_EQ)])) X3 hx rfl rfl rfl (pc0 := 30) (pc' := 46) (same := false) rfl (hb hby d5_30) rfl (decide_eq_false fun q => (Ne.symm f6) (Value.ref.inj q)) (by decide) (by decide) ?_
    refine XS.aloadN X3.here hx rfl (hb hby d5_46) rfl rfl ?_
    show Steps p.tables e below (T3.setTop (mkF m 47 #[.val (.ref a_GT_EQ), .val (.int 0), .val (.long p2), .second, .val (.long p3), .second] [(.ref a_GT_EQ)])) _
    refine st4 _ ?_
    show Steps p.tables e below (T4.setTop (mkF m 50 #[.val (.ref a_GT_EQ), .val (.int 0), .val (.long p2), .second, .val (.long p3), .second] [(.ref a_NOT_EQ), (.ref a_GT_EQ)])) _
    refine Jvm.RoadKit.acmp (g := (mkF m 50 #[.val (.ref a_GT_EQ), .val (.int 0), .val (.long p2), .second, .val (.long p3), .second] [(.ref a_NOT_EQ), (.ref a_GT_EQ)])) X4 hx rfl rfl rfl (pc0 := 50) (pc' := 66) (same := false) rfl (hb hby d5_50) rfl (decide_eq_false fun q => (Ne.symm f8) (Value.ref.inj q)) (by decide) (by decide) ?_
    refine XS.aloadN X4.here hx rfl (hb hby d5_66) rfl rfl ?_
    show Steps p.tables e below (T4.setTop (mkF m 67 #[.val (.ref a_GT_EQ), .val (.int 0), .val (.long p2), .second, .val (.long p3), .second] [(.ref a_GT_EQ)])) _
    refine st5 _ ?_
    show Steps p.tables e below (T5.setTop (mkF m 70 #[.val (.ref a_GT_EQ), .val (.int 0), .val (.long p2), .second, .val (.long p3), .second] [(.ref a_LT), (.ref a_GT_EQ)])) _
    refine Jvm.RoadKit.acmp (g := (mkF m 70 #[.val (.ref a_GT_EQ), .val (.int 0), .val (.long p2), .second, .val (.long p3), .second] [(.ref a_LT), (.ref a_GT_EQ)])) X5 hx rfl rfl rfl (pc0 := 70) (pc' := 86) (same := false) rfl (hb hby d5_70) rfl (decide_eq_false fun q => (Ne.symm f10) (Value.ref.inj q)) (by decide) (by decide) ?_
    refine XS.aloadN X5.here hx rfl (hb hby d5_86) rfl rfl ?_
    show Steps p.tables e below (T5.setTop (mkF m 87 #[.val (.ref a_GT_EQ), .val (.int 0), .val (.long p2), .second, .val (.long p3), .second] [(.ref a_GT_EQ)])) _
    refine st6 _ ?_
    show Steps p.tables e below (T6.setTop (mkF m 90 #[.val (.ref a_GT_EQ), .val (.int 0), .val (.long p2), .second, .val (.long p3), .second] [(.ref a_LT_EQ), (.ref a_GT_EQ)])) _
    refine Jvm.RoadKit.acmp (g := (mkF m 90 #[.val (.ref a_GT_EQ), .val (.int 0), .val (.long p2), .second, .val (.long p3), .second] [(.ref a_LT_EQ), (.ref a_GT_EQ)])) X6 hx rfl rfl rfl (pc0 := 90) (pc' := 106) (same := false) rfl (hb hby d5_90) rfl (decide_eq_false fun q => f12 (Value.ref.inj q)) (by decide) (by decide) ?_
    refine XS.aloadN X6.here hx rfl (hb hby d5_106) rfl rfl ?_
    show Steps p.tables e below (T6.setTop (mkF m 107 #[.val (.ref a_GT_EQ), .val (.int 0), .val (.long p2), .second, .val (.long p3), .second] [(.ref a_GT_EQ)])) _
    refine st7 _ ?_
    show Steps p.tables e below (T7.setTop (mkF m 110 #[.val (.ref a_GT_EQ), .val (.int 0), .val (.long p2), .second, .val (.long p3), .second] [(.ref a_GT), (.ref a_GT_EQ)])) _
    refine Jvm.RoadKit.acmp (g := (mkF m 110 #[.val (.ref a_GT_EQ), .val (.int 0), .val (.long p2), .second, .val (.long p3), .second] [(.ref a_GT), (.ref a_GT_EQ)])) X7 hx rfl rfl rfl (pc0 := 110) (pc' := 126) (same := false) rfl (hb hby d5_110) rfl (decide_eq_false fun q => f14 (Value.ref.inj q)) (by decide) (by decide) ?_
    refine XS.aloadN X7.here hx rfl (hb hby d5_126) rfl rfl ?_
    show Steps p.tables e below (T7.setTop (mkF m 127 #[.val (.ref a_GT_EQ), .val (.int 0), .val (.long p2), .second, .val (.long p3), .second] [(.ref a_GT_EQ)])) _
    refine st8 _ ?_
    show Steps p.tables e below (T8.setTop (mkF m 130 #[.val (.ref a_GT_EQ), .val (.int 0), .val (.long p2), .second, .val (.long p3), .second] [(.ref a_GT_EQ), (.ref a_GT_EQ)])) _
    refine Jvm.RoadKit.acmp (g := (mkF m 130 #[.val (.ref a_GT_EQ), .val (.int 0), .val (.long p2), .second, .val (.long p3), .second] [(.ref a_GT_EQ), (.ref a_GT_EQ)])) X8 hx rfl rfl rfl (pc0 := 130) (pc' := 133) (same := true) rfl (hb hby d5_130) rfl (decide_eq_true rfl) (by decide) (by decide) ?_
    refine XS.lloadN X8.here hx rfl (hb hby d5_133) rfl ?_
    refine XS.lload X8.here hx rfl (hb hby d5_134) rfl ?_
    show Steps p.tables e below (T8.setTop (mkF m 136 #[.val (.ref a_GT_EQ), .val (.int 0), .val (.long p2), .second, .val (.long p3), .second] [(.long p3), (.long p2)])) _
    refine XS.lcmp X8.here hx rfl (hb hby d5_136) rfl ?_
    show Steps p.tables e below (T8.setTop (mkF m 137 #[.val (.ref a_GT_EQ), .val (.int 0), .val (.long p2), .second, .val (.long p3), .second] [(.int (lcmpW p2 p3))])) _
    rw [f16]
    refine XS.ifNo X8.here hx rfl (hb hby d5_137) rfl (by decide) ?_
    refine XS.iconst X8.here hx rfl (hb hby d5_140) ?_
    refine XS.goto X8.here hx rfl (pc0 := 141) (pc' := 145) rfl (hb hby d5_141) (by decide) (by decide) ?_
    show Steps p.tables e below (T8.setTop (mkF m 145 #[.val (.ref a_GT_EQ), .val (.int 0), .val (.long p2), .second, .val (.long p3), .second] [(.int 1)])) _
    exact retN X8 hx (t := .boolean) Bd.returns (by simp) (hb hby d5_145) hr
  · show QP (some (.int 1)) h0 n0 _ T8.heap _
    rw [e8]
    exact ⟨rfl, N0, rfl⟩
theorem d5_84 : decode method_3_code 84 = .ok (.iconst 0, 1) := by decide +kernel
set_option maxRecDepth 65536 in
set_option maxHeartbeats 40000000 in
theorem rm5_60 (l : Launch) (Z : State) (a0 : Array Value) (hw : ∀ d ∈ tables_1, d.before a0 Z = true) (ws : List Jvm.Cond) (a_LT : Addr) (p2 : Int64) (p3 : Int64) (a_IS_NULL : Addr) (a_NOT_NULL : Addr) (a_EQ : Addr) (a_NOT_EQ : Addr) (h0 : Heap) (n0 : Nat) (Z0 : n0 ≤ h0.size) (f1 : S_2 Z h0 (.ref a_IS_NULL)) (f2 : a_LT ≠ a_IS_NULL) (f3 : S_3 Z h0 (.ref a_NOT_NULL)) (f4 : a_LT ≠ a_NOT_NULL) (f5 : S_0 Z h0 (.ref a_EQ)) (f6 : a_EQ ≠ a_LT) (f7 : S_1 Z h0 (.ref a_NOT_EQ)) (f8 : a_NOT_EQ ≠ a_LT) (f9 : S_4 Z h0 (.ref a_LT)) (f10 : (lcmpW p2 p3) = (0 : Int32)) :
    MetFree l M_5 (head1 (Jvm.Cond.code M_5 method_3_code 6 (some .boolean) :: ws) R_0_0_0_0) (fun a U => a = #[(.ref a_LT), (.int 0), (.long p2), (.long p3)] ∧ Z.Warmed39 U.vm ∧ U.heap = h0) (fun _ _ _ _ _ => True) (fun _ U o U' => ∃ v L, o = .returned v ∧ QP (some (.int 0)) h0 n0 v U'.heap L ∧ FrameEnd U o U' L R_0_0_0_0.cells R_0_0_0_0.slots) := by
  refine MetFree.of_bodySF (plainFor_of_name pn_com_example_floe_floe_OperationNegatePinLaw) hisR ?_
  intro p e s m args below meth c s₁ Bd hml0 hP hK
  obtain ⟨rfl, hZ, hh⟩ := hP
  have hx := Bd.exec
  have hby := Bd.bytes
  have hml : c.maxLocals = 6 := hml0
  have hown : s.vm.findClass "com/example/floe/floe/OperationNegatePinLaw" = some m.cls := findClass_of_methodNamed Bd.named
  have hnm := (name_of_methodNamed Bd.named Bd.method).1
  have X0 : Stand p l e R_0_0_0_0 s m #[(.ref a_LT), (.int 0), (.long p2), (.long p3)] below meth c s₁ [] 0 0 := Stand.of_body Bd
  have e0 : s₁.heap = h0 := by rw [← hh, Bd.state]; rfl
  have N0 := Fr.nil n0
  obtain ⟨T1, X1, e1, st1⟩ := getS2 X0 hx hZ hown (host := "") (Or.inl (tw_35 hw)) Via.refl e0 f1 (g := (mkF m 1 #[.val (.ref a_LT), .val (.int 0), .val (.long p2), .second, .val (.long p3), .second] [(.ref a_LT)])) rfl (hb hby d5_1)
  obtain ⟨T2, X2, e2, st2⟩ := getS2 X1 hx hZ hown (host := "") (Or.inl (tw_36 hw)) Via.refl e1 f3 (g := (mkF m 10 #[.val (.ref a_LT), .val (.int 0), .val (.long p2), .second, .val (.long p3), .second] [(.ref a_LT)])) rfl (hb hby d5_10)
  obtain ⟨T3, X3, e3, st3⟩ := getS2 X2 hx hZ hown (host := "") (Or.inl (tw_4 hw)) Via.refl e2 f5 (g := (mkF m 27 #[.val (.ref a_LT), .val (.int 0), .val (.long p2), .second, .val (.long p3), .second] [(.ref a_LT)])) rfl (hb hby d5_27)
  obtain ⟨T4, X4, e4, st4⟩ := getS2 X3 hx hZ hown (host := "") (Or.inl (tw_37 hw)) Via.refl e3 f7 (g := (mkF m 47 #[.val (.ref a_LT), .val (.int 0), .val (.long p2), .second, .val (.long p3), .second] [(.ref a_LT)])) rfl (hb hby d5_47)
  obtain ⟨T5, X5, e5, st5⟩ := getS2 X4 hx hZ hown (host := "") (Or.inl (tw_38 hw)) Via.refl e4 f9 (g := (mkF m 67 #[.val (.ref a_LT), .val (.int 0), .val (.long p2), .second, .val (.long p3), .second] [(.ref a_LT)])) rfl (hb hby d5_67)
  obtain ⟨fs, hr, hrun, hended, hW, hsame⟩ := X5.leave (v := (some (.int 0))) (fun h => by rw [Bd.returns] at h; cases h)
  refine ⟨_, _, castTop (ef5_RIJJ m a_LT (0 : Int32) p2 p3) ?_, hrun, hended, _, _, rfl, ?_, ⟨_, rfl⟩, hW, hsame.mono (by decide) (by decide)⟩
  · show Steps p.tables e below (s₁.setTop (mkF m 0 #[.val (.ref a_LT), .val (.int 0), .val (.long p2), .second, .val (.long p3), .second] [])) _
    refine XS.aloadN X0.here hx rfl (hb hby d5_0) rfl rfl ?_
    show Steps p.tables e below (s₁.setTop (mkF m 1 #[.val (.ref a_LT), .val (.int 0), .val (.long p2), .second, .val (.long p3), .second] [(.ref a_LT)])) _
    refine st1 _ ?_
    show Steps p.tables e below (T1.setTop (mkF m 4 #[.val (.ref a_LT), .val (.int 0), .val (.long p2), .second, .val (.long p3), .second] [(.ref a_IS_NULL), (.ref a_LT)])) _
    refine Jvm.RoadKit.acmp (g := (mkF m 4 #[.val (.ref a_LT), .val (.int 0), .val (.long p2), .second, .val (.long p3), .second] [(.ref a_IS_NULL), (.ref a_LT)])) X1 hx rfl rfl rfl (pc0 := 4) (pc' := 9) (same := false) rfl (hb hby d5_4) rfl (decide_eq_false fun q => f2 (Value.ref.inj q)) (by decide) (by decide) ?_
    refine XS.aloadN X1.here hx rfl (hb hby d5_9) rfl rfl ?_
    show Steps p.tables e below (T1.setTop (mkF m 10 #[.val (.ref a_LT), .val (.int 0), .val (.long p2), .second, .val (.long p3), .second] [(.ref a_LT)])) _
    refine st2 _ ?_
    show Steps p.tables e below (T2.setTop (mkF m 13 #[.val (.ref a_LT), .val (.int 0), .val (.long p2), .second, .val (.long p3), .second] [(.ref a_NOT_NULL), (.ref a_LT)])) _
    refine Jvm.RoadKit.acmp (g := (mkF m 13 #[.val (.ref a_LT), .val (.int 0), .val (.long p2), .second, .val (.long p3), .second] [(.ref a_NOT_NULL), (.ref a_LT)])) X2 hx rfl rfl rfl (pc0 := 13) (pc' := 26) (same := false) rfl (hb hby d5_13) rfl (decide_eq_false fun q => f4 (Value.ref.inj q)) (by decide) (by decide) ?_
    refine XS.aloadN X2.here hx rfl (hb hby d5_26) rfl rfl ?_
    show Steps p.tables e below (T2.setTop (mkF m 27 #[.val (.ref a_LT), .val (.int 0), .val (.long p2), .second, .val (.long p3), .second] [(.ref a_LT)])) _
    refine st3 _ ?_
    show Steps p.tables e below (T3.setTop (mkF m 30 #[.val (.ref a_LT), .val (.int 0), .val (.long p2), .second, .val (.long p3), .second] [(.ref a_EQ), (.ref a_LT)])) _
    refine Jvm.RoadKit.acmp (g := (mkF m 30 #[.val (.ref a_LT), .val (.int 0), .val (.long p2), .second, .val (.long p3), .second] [(.ref a_EQ), (.ref a_LT)])) X3 hx rfl rfl rfl (pc0 := 30) (pc' := 46) (same := false) rfl (hb hby d5_30) rfl (decide_eq_false fun q => (Ne.symm f6) (Value.ref.inj q)) (by decide) (by decide) ?_
    refine XS.aloadN X3.here hx rfl (hb hby d5_46) rfl rfl ?_
    show Steps p.tables e below (T3.setTop (mkF m 47 #[.val (.ref a_LT), .val (.int 0), .val (.long p2), .second, .val (.long p3), .second] [(.ref a_LT)])) _
    refine st4 _ ?_
    show Steps p.tables e below (T4.setTop (mkF m 50 #[.val (.ref a_LT), .val (.int 0), .val (.long p2), .second, .val (.long p3), .second] [(.ref a_NOT_EQ), (.ref a_LT)])) _
    refine Jvm.RoadKit.acmp (g := (mkF m 50 #[.val (.ref a_LT), .val (.int 0), .val (.long p2), .second, .val (.long p3), .second] [(.ref a_NOT_EQ), (.ref a_LT)])) X4 hx rfl rfl rfl (pc0 := 50) (pc' := 66) (same := false) rfl (hb hby d5_50) rfl (decide_eq_false fun q => (Ne.symm f8) (Value.ref.inj q)) (by decide) (by decide) ?_
    refine XS.aloadN X4.here hx rfl (hb hby d5_66) rfl rfl ?_
    show Steps p.tables e below (T4.setTop (mkF m 67 #[.val (.ref a_LT), .val (.int 0), .val (.long p2), .second, .val (.long p3), .second] [(.ref a_LT)])) _
    refine st5 _ ?_
    show Steps p.tables e below (T5.setTop (mkF m 70 #[.val (.ref a_LT), .val (.int 0), .val (.long p2), .second, .val (.long p3), .second] [(.ref a_LT), (.ref a_LT)])) _
    refine Jvm.RoadKit.acmp (g := (mkF m 70 #[.val (.ref a_LT), .val (.int 0), .val (.long p2), .second, .val (.long p3), .second] [(.ref a_LT), (.ref a_LT)])) X5 hx rfl rfl rfl (pc0 := 70) (pc' := 73) (same := true) rfl (hb hby d5_70) rfl (decide_eq_true rfl) (by decide) (by decide) ?_
    refine XS.lloadN X5.here hx rfl (hb hby d5_73) rfl ?_
    refine XS.lload X5.here hx rfl (hb hby d5_74) rfl ?_
    show Steps p.tables e below (T5.setTop (mkF m 76 #[.val (.ref a_LT), .val (.int 0), .val (.long p2), .second, .val (.long p3), .second] [(.long p3), (.long p2)])) _
    refine XS.lcmp X5.here hx rfl (hb hby d5_76) rfl ?_
    show Steps p.tables e below (T5.setTop (mkF m 77 #[.val (.ref a_LT), .val (.int 0), .val (.long p2), .second, .val (.long p3), .second] [(.int (lcmpW p2 p3))])) _
    rw [f10]
    refine XS.ifYes X5.here hx rfl (pc0 := 77) (pc' := 84) rfl (hb hby d5_77) rfl (by decide) (by decide) (by decide) ?_
    refine XS.iconst X5.here hx rfl (hb hby d5_84) ?_
    show Steps p.tables e below (T5.setTop (mkF m 85 #[.val (.ref a_LT), .val (.int 0), .val (.long p2), .second, .val (.long p3), .second] [(.int 0)])) _
    exact retN X5 hx (t := .boolean) Bd.returns (by simp) (hb hby d5_85) hr
  · show QP (some (.int 0)) h0 n0 _ T5.heap _
    rw [e5]
    exact ⟨rfl, N0, rfl⟩
set_option maxRecDepth 65536 in
set_option maxHeartbeats 40000000 in
theorem rm0_61 (l : Launch) (Z : State) (a0 : Array Value) (hw : ∀ d ∈ tables_1, d.before a0 Z = true) (ws : List Jvm.Cond) (p0 : Int32) (p1 : Int32) (p2 : Int64) (p3 : Int64) (a_LT : Addr) (a_GT_EQ : Addr) (a_IS_NULL : Addr) (a_NOT_NULL : Addr) (a_EQ : Addr) (a_NOT_EQ : Addr) (a_LT_EQ : Addr) (a_GT : Addr) (h0 : Heap) (n0 : Nat) (Z0 : n0 ≤ h0.size) (f1 : (p0 &&& (7 : Int32)) = (2 : Int32)) (f2 : S_4 Z h0 (.ref a_LT)) (f3 : F_0 Z h0 a_LT (.int 2)) (f4 : E_0 Z h0 a_LT) (f5 : S_5 Z h0 (.ref a_GT_EQ)) (f6 : S_2 Z h0 (.ref a_IS_NULL)) (f7 : a_IS_NULL ≠ a_LT) (f8 : S_3 Z h0 (.ref a_NOT_NULL)) (f9 : a_NOT_NULL ≠ a_LT) (f10 : a_IS_NULL ≠ a_GT_EQ) (f11 : a_NOT_NULL ≠ a_GT_EQ) (f12 : E_0 Z h0 a_GT_EQ) (f13 : S_0 Z h0 (.ref a_EQ)) (f14 : a_EQ ≠ a_GT_EQ) (f15 : S_1 Z h0 (.ref a_NOT_EQ)) (f16 : a_NOT_EQ ≠ a_GT_EQ) (f17 : a_LT ≠ a_GT_EQ) (f18 : S_6 Z h0 (.ref a_LT_EQ)) (f19 : a_GT_EQ ≠ a_LT_EQ) (f20 : S_7 Z h0 (.ref a_GT)) (f21 : a_GT_EQ ≠ a_GT) (f22 : (lcmpW p2 p3) = (0 : Int32)) (f23 : a_EQ ≠ a_LT) (f24 : a_NOT_EQ ≠ a_LT) :
    MetFree l x (head1 (Jvm.Cond.code x code maxLocals ret :: ws) room_1) (fun a U => a = #[(.int p0), (.int p1), (.long p2), (.long p3)] ∧ Z.Warmed39 U.vm ∧ U.heap = h0) (fun _ _ _ _ _ => True) (fun _ U o U' => ∃ v L, o = .returned v ∧ QT n0 v U'.heap L ∧ FrameEnd U o U' L room_1.cells room_1.slots) := by
  refine MetFree.of_bodySF (plainFor_of_name pn_com_example_floe_floe_OperationNegatePinLaw) hisR ?_
  intro p e s m args below meth c s₁ Bd hml0 hP hK
  obtain ⟨rfl, hZ, hh⟩ := hP
  have hx := Bd.exec
  have hby := Bd.bytes
  have hml : c.maxLocals = 10 := hml0
  have hown : s.vm.findClass "com/example/floe/floe/OperationNegatePinLaw" = some m.cls := findClass_of_methodNamed Bd.named
  have hnm := (name_of_methodNamed Bd.named Bd.method).1
  have X0 : Stand p l e room_1 s m #[(.int p0), (.int p1), (.long p2), (.long p3)] below meth c s₁ [] 0 0 := Stand.of_body Bd
  have e0 : s₁.heap = h0 := by rw [← hh, Bd.state]; rfl
  have N0 := Fr.nil n0
  -- pc 1: com/example/floe/floe/OperationNegatePinLaw.pick
  obtain ⟨_, _, ⟨T1, L1, k1, n1⟩, -, X1, ⟨Lc1, hQ1, l1, y1, z1⟩, st1⟩ := Jvm.LawKit.callS X0 hx (y := M_0) hown (mvT hZ (tw_0 hw)) (mvT hZ (tw_1 hw)) (mvT hZ (tw_2 hw)) (mvT hZ (tw_3 hw)) (by decide) (backOf (W := 0) (rm1_51 l Z a0 hw [] p0 a_LT h0 n0 Z0 f1 f2) hZ (tw_3 hw) (tw_2 hw) (by decide) (by decide)) (g := (mkF m 1 #[.val (.int p0), .val (.int p1), .val (.long p2), .second, .val (.long p3), .second, .unset, .unset, .unset, .unset] [(.int p0)])) rfl (by rw [hml]; rfl) (argsL := [(.int p0)]) (rest := []) (lenOf pd_0 rfl) rfl (by show 2 * 0 + _ ≤ _; exact Nat.le_of_eq rfl) (hb hby at_1) (fun _ _ => ⟨rfl, e0, (by decide : 0 + 0 ≤ _), (by decide : 0 + 0 ≤ _)⟩)
  dsimp only [Pt.U, Pt.locs, Pt.cells, Pt.slots] at X1 l1 y1 z1 st1 hQ1
  subst l1 y1 z1
  obtain ⟨rfl, Nq1, e1⟩ := hQ1
  have N1 := Fr.app N0 Nq1
  -- pc 8: com/example/floe/floe/Expression$Operation.negate
  obtain ⟨cq2, kq2, q2a, q2b, q2c⟩ := isOf hZ e1 f4
  obtain ⟨_, _, ⟨T2, L2, k2, n2⟩, -, X2, ⟨Lc2, hQ2, l2, y2, z2⟩, st2⟩ := X1.virtualBack hx (y := M_3) (z := M_3) hown (mvT hZ (tw_7 hw)) (mvT hZ (tw_8 hw)) (notFace_of_selects (args := #[]) (mvT hZ (tw_10 hw))) (mvT hZ (tw_10 hw)) (mvT hZ (tw_9 hw)) (by decide) (backOf (W := 0) (rm2_53 l Z a0 hw [] a_LT a_GT_EQ h0 n0 Z0 f3 f4 f5) hZ (tw_11 hw) (tw_5 hw) (by decide) (by decide)) q2a q2c (g := (mkF m 8 #[.val (.int p0), .val (.int p1), .val (.long p2), .second, .val (.long p3), .second, .val (.ref a_LT), .unset, .unset, .unset] [(.ref a_LT)])) rfl (by rw [hml]; rfl) (Steps.refl _) (argsL := []) (rest := []) (lenOf pd_2 rfl) rfl (by show 2 * 0 + _ ≤ _; exact Nat.le_of_eq rfl) (hb hby at_8) (fun _ _ => ⟨rfl, e1, (by decide : 0 + 0 ≤ _), (by decide : 0 + 0 ≤ _)⟩)
  dsimp only [Pt.U, Pt.locs, Pt.cells, Pt.slots] at X2 l2 y2 z2 st2 hQ2
  subst l2 y2 z2
  obtain ⟨rfl, Nq2, e2⟩ := hQ2
  have N2 := Fr.app N1 Nq2
  -- pc 22: com/example/floe/floe/Expression$Operation.compares
  obtain ⟨cq3, kq3, q3a, q3b, q3c⟩ := isOf hZ e2 f4
  obtain ⟨_, _, ⟨T3, L3, k3, n3⟩, -, X3, ⟨Lc3, hQ3, l3, y3, z3⟩, st3⟩ := X2.virtualBack hx (y := M_4) (z := M_4) hown (mvT hZ (tw_23 hw)) (mvT hZ (tw_24 hw)) (notFace_of_selects (args := #[]) (mvT hZ (tw_26 hw))) (mvT hZ (tw_26 hw)) (mvT hZ (tw_25 hw)) (by decide) (backOf (W := 0) (rm4_54 l Z a0 hw [] a_LT a_IS_NULL a_NOT_NULL h0 n0 Z0 f6 f7 f8 f9) hZ (tw_27 hw) (tw_5 hw) (by decide) (by decide)) q3a q3c (g := (mkF m 22 #[.val (.int p0), .val (.int p1), .val (.long p2), .second, .val (.long p3), .second, .val (.ref a_LT), .val (.ref a_GT_EQ), .unset, .unset] [(.ref a_LT)])) rfl (by rw [hml]; rfl) (Steps.refl _) (argsL := []) (rest := []) (lenOf pd_3 rfl) rfl (by show 2 * 0 + _ ≤ _; exact Nat.le_of_eq rfl) (hb hby at_22) (fun _ _ => ⟨rfl, e2, (by decide : 0 + 0 ≤ _), (by decide : 0 + 0 ≤ _)⟩)
  dsimp only [Pt.U, Pt.locs, Pt.cells, Pt.slots] at X3 l3 y3 z3 st3 hQ3
  subst l3 y3 z3
  obtain ⟨rfl, Nq3, e3⟩ := hQ3
  have N3 := Fr.app N2 Nq3
  -- pc 51: com/example/floe/floe/Expression$Operation.compares
  obtain ⟨cq4, kq4, q4a, q4b, q4c⟩ := isOf hZ e3 f12
  obtain ⟨_, _, ⟨T4, L4, k4, n4⟩, -, X4, ⟨Lc4, hQ4, l4, y4, z4⟩, st4⟩ := X3.virtualBack hx (y := M_4) (z := M_4) hown (mvT hZ (tw_23 hw)) (mvT hZ (tw_24 hw)) (notFace_of_selects (args := #[]) (mvT hZ (tw_26 hw))) (mvT hZ (tw_26 hw)) (mvT hZ (tw_25 hw)) (by decide) (backOf (W := 0) (rm4_55 l Z a0 hw [] a_GT_EQ a_IS_NULL a_NOT_NULL h0 n0 Z0 f6 f10 f8 f11) hZ (tw_27 hw) (tw_5 hw) (by decide) (by decide)) q4a q4c (g := (mkF m 51 #[.val (.int p0), .val (.int p1), .val (.long p2), .second, .val (.long p3), .second, .val (.ref a_LT), .val (.ref a_GT_EQ), .val (.int 1), .val (.int 0)] [(.ref a_GT_EQ)])) rfl (by rw [hml]; rfl) (Steps.refl _) (argsL := []) (rest := []) (lenOf pd_3 rfl) rfl (by show 2 * 0 + _ ≤ _; exact Nat.le_of_eq rfl) (hb hby at_51) (fun _ _ => ⟨rfl, e3, (by decide : 0 + 0 ≤ _), (by decide : 0 + 0 ≤ _)⟩)
  dsimp only [Pt.U, Pt.locs, Pt.cells, Pt.slots] at X4 l4 y4 z4 st4 hQ4
  subst l4 y4 z4
  obtain ⟨rfl, Nq4, e4⟩ := hQ4
  have N4 := Fr.app N3 Nq4
  -- pc 68: com/example/floe/floe/OperationNegatePinLaw.holds
  obtain ⟨_, _, ⟨T5, L5, k5, n5⟩, -, X5, ⟨Lc5, hQ5, l5, y5, z5⟩, st5⟩ := Jvm.LawKit.callS X4 hx (y := M_5) hown (mvT hZ (tw_32 hw)) (mvT hZ (tw_33 hw)) (mvT hZ (tw_2 hw)) (mvT hZ (tw_34 hw)) (by decide) (backOf (W := 0) (rm5_59 l Z a0 hw [] a_GT_EQ p2 p3 a_IS_NULL a_NOT_NULL a_EQ a_NOT_EQ a_LT a_LT_EQ a_GT h0 n0 Z0 f6 (Ne.symm f10) f8 (Ne.symm f11) f13 f14 f15 f16 f2 f17 f18 f19 f20 f21 f5 f22) hZ (tw_34 hw) (tw_2 hw) (by decide) (by decide)) (g := (mkF m 68 #[.val (.int p0), .val (.int p1), .val (.long p2), .second, .val (.long p3), .second, .val (.ref a_LT), .val (.ref a_GT_EQ), .val (.int 1), .val (.int 0)] [(.long p3), (.long p2), (.int 0), (.ref a_GT_EQ)])) rfl (by rw [hml]; rfl) (argsL := [(.ref a_GT_EQ), (.int 0), (.long p2), (.long p3)]) (rest := []) (lenOf pd_4 rfl) rfl (by show 2 * 0 + _ ≤ _; exact Nat.le_of_eq rfl) (hb hby at_68) (fun _ _ => ⟨rfl, e4, (by decide : 0 + 0 ≤ _), (by decide : 0 + 0 ≤ _)⟩)
  dsimp only [Pt.U, Pt.locs, Pt.cells, Pt.slots] at X5 l5 y5 z5 st5 hQ5
  subst l5 y5 z5
  obtain ⟨rfl, Nq5, e5⟩ := hQ5
  have N5 := Fr.app N4 Nq5
  -- pc 78: com/example/floe/floe/OperationNegatePinLaw.holds
  obtain ⟨_, _, ⟨T6, L6, k6, n6⟩, -, X6, ⟨Lc6, hQ6, l6, y6, z6⟩, st6⟩ := Jvm.LawKit.callS X5 hx (y := M_5) hown (mvT hZ (tw_32 hw)) (mvT hZ (tw_33 hw)) (mvT hZ (tw_2 hw)) (mvT hZ (tw_34 hw)) (by decide) (backOf (W := 1) (rm5_60 l Z a0 hw [] a_LT p2 p3 a_IS_NULL a_NOT_NULL a_EQ a_NOT_EQ h0 n0 Z0 f6 (Ne.symm f7) f8 (Ne.symm f9) f13 f23 f15 f24 f2 f22) hZ (tw_34 hw) (tw_2 hw) (by decide) (by decide)) (g := (mkF m 78 #[.val (.int p0), .val (.int p1), .val (.long p2), .second, .val (.long p3), .second, .val (.ref a_LT), .val (.ref a_GT_EQ), .val (.int 1), .val (.int 0)] [(.long p3), (.long p2), (.int 0), (.ref a_LT), (.int 1)])) rfl (by rw [hml]; rfl) (argsL := [(.ref a_LT), (.int 0), (.long p2), (.long p3)]) (rest := [(.int 1)]) (lenOf pd_4 rfl) rfl (by show 2 * 0 + _ ≤ _; exact Nat.le_of_eq rfl) (hb hby at_78) (fun _ _ => ⟨rfl, e5, (by decide : 0 + 0 ≤ _), (by decide : 0 + 0 ≤ _)⟩)
  dsimp only [Pt.U, Pt.locs, Pt.cells, Pt.slots] at X6 l6 y6 z6 st6 hQ6
  subst l6 y6 z6
  obtain ⟨rfl, Nq6, e6⟩ := hQ6
  have N6 := Fr.app N5 Nq6
  obtain ⟨fs, hr, hrun, hended, hW, hsame⟩ := X6.leave (v := (some (.int 1))) (fun h => by rw [Bd.returns] at h; cases h)
  refine ⟨_, _, castTop (ef0_IIJJ m p0 p1 p2 p3) ?_, hrun, hended, _, _, rfl, ?_, ⟨_, rfl⟩, hW, hsame.mono (by decide) (by decide)⟩
  · show Steps p.tables e below (s₁.setTop (mkF m 0 #[.val (.int p0), .val (.int p1), .val (.long p2), .second, .val (.long p3), .second, .unset, .unset, .unset, .unset] [])) _
    refine XS.iloadN X0.here hx rfl (hb hby at_0) rfl ?_
    show Steps p.tables e below (s₁.setTop (mkF m 1 #[.val (.int p0), .val (.int p1), .val (.long p2), .second, .val (.long p3), .second, .unset, .unset, .unset, .unset] [(.int p0)])) _
    refine st1 _ ?_
    refine XS.astore X1.here hx rfl (hb hby at_4) rfl rfl (l' := #[.val (.int p0), .val (.int p1), .val (.long p2), .second, .val (.long p3), .second, .val (.ref a_LT), .unset, .unset, .unset]) rfl ?_
    refine XS.aload X1.here hx rfl (hb hby at_6) rfl rfl ?_
    show Steps p.tables e below (T1.setTop (mkF m 8 #[.val (.int p0), .val (.int p1), .val (.long p2), .second, .val (.long p3), .second, .val (.ref a_LT), .unset, .unset, .unset] [(.ref a_LT)])) _
    refine st2.trans ?_
    refine XS.astore X2.here hx rfl (hb hby at_11) rfl rfl (l' := #[.val (.int p0), .val (.int p1), .val (.long p2), .second, .val (.long p3), .second, .val (.ref a_LT), .val (.ref a_GT_EQ), .unset, .unset]) rfl ?_
    refine XS.aload X2.here hx rfl (hb hby at_13) rfl rfl ?_
    refine XS.ifnonnullYes X2.here hx rfl (pc0 := 15) (pc' := 20) rfl (hb hby at_15) rfl (by decide) (by decide) ?_
    refine XS.aload X2.here hx rfl (hb hby at_20) rfl rfl ?_
    show Steps p.tables e below (T2.setTop (mkF m 22 #[.val (.int p0), .val (.int p1), .val (.long p2), .second, .val (.long p3), .second, .val (.ref a_LT), .val (.ref a_GT_EQ), .unset, .unset] [(.ref a_LT)])) _
    refine st3.trans ?_
    refine XS.istore X3.here hx rfl (hb hby at_25) rfl (l' := #[.val (.int p0), .val (.int p1), .val (.long p2), .second, .val (.long p3), .second, .val (.ref a_LT), .val (.ref a_GT_EQ), .val (.int 1), .unset]) rfl ?_
    refine XS.iload X3.here hx rfl (hb hby at_27) rfl ?_
    refine XS.ifNo X3.here hx rfl (hb hby at_29) rfl (by decide) ?_
    refine XS.iconst X3.here hx rfl (hb hby at_32) ?_
    show Steps p.tables e below (T3.setTop (mkF m 33 #[.val (.int p0), .val (.int p1), .val (.long p2), .second, .val (.long p3), .second, .val (.ref a_LT), .val (.ref a_GT_EQ), .val (.int 1), .unset] [(.int 0)])) _
    refine XS.goto X3.here hx rfl (pc0 := 33) (pc' := 47) rfl (hb hby at_33) (by decide) (by decide) ?_
    refine XS.istore X3.here hx rfl (hb hby at_47) rfl (l' := #[.val (.int p0), .val (.int p1), .val (.long p2), .second, .val (.long p3), .second, .val (.ref a_LT), .val (.ref a_GT_EQ), .val (.int 1), .val (.int 0)]) rfl ?_
    refine XS.aload X3.here hx rfl (hb hby at_49) rfl rfl ?_
    show Steps p.tables e below (T3.setTop (mkF m 51 #[.val (.int p0), .val (.int p1), .val (.long p2), .second, .val (.long p3), .second, .val (.ref a_LT), .val (.ref a_GT_EQ), .val (.int 1), .val (.int 0)] [(.ref a_GT_EQ)])) _
    refine st4.trans ?_
    refine XS.iload X4.here hx rfl (hb hby at_54) rfl ?_
    refine XS.icmpYes X4.here hx rfl (pc0 := 56) (pc' := 61) rfl (hb hby at_56) rfl (by decide) (by decide) (by decide) ?_
    refine XS.aload X4.here hx rfl (hb hby at_61) rfl rfl ?_
    refine XS.iload X4.here hx rfl (hb hby at_63) rfl ?_
    show Steps p.tables e below (T4.setTop (mkF m 65 #[.val (.int p0), .val (.int p1), .val (.long p2), .second, .val (.long p3), .second, .val (.ref a_LT), .val (.ref a_GT_EQ), .val (.int 1), .val (.int 0)] [(.int 0), (.ref a_GT_EQ)])) _
    refine XS.lloadN X4.here hx rfl (hb hby at_65) rfl ?_
    refine XS.lload X4.here hx rfl (hb hby at_66) rfl ?_
    show Steps p.tables e below (T4.setTop (mkF m 68 #[.val (.int p0), .val (.int p1), .val (.long p2), .second, .val (.long p3), .second, .val (.ref a_LT), .val (.ref a_GT_EQ), .val (.int 1), .val (.int 0)] [(.long p3), (.long p2), (.int 0), (.ref a_GT_EQ)])) _
    refine st5 _ ?_
    refine XS.aload X5.here hx rfl (hb hby at_71) rfl rfl ?_
    refine XS.iload X5.here hx rfl (hb hby at_73) rfl ?_
    refine XS.lloadN X5.here hx rfl (hb hby at_75) rfl ?_
    refine XS.lload X5.here hx rfl (hb hby at_76) rfl ?_
    show Steps p.tables e below (T5.setTop (mkF m 78 #[.val (.int p0), .val (.int p1), .val (.long p2), .second, .val (.long p3), .second, .val (.ref a_LT), .val (.ref a_GT_EQ), .val (.int 1), .val (.int 0)] [(.long p3), (.long p2), (.int 0), (.ref a_LT), (.int 1)])) _
    refine st6 _ ?_
    refine XS.icmpNo X6.here hx rfl (hb hby at_81) rfl (by decide) ?_
    refine XS.iconst X6.here hx rfl (hb hby at_84) ?_
    refine XS.goto X6.here hx rfl (pc0 := 85) (pc' := 89) rfl (hb hby at_85) (by decide) (by decide) ?_
    show Steps p.tables e below (T6.setTop (mkF m 89 #[.val (.int p0), .val (.int p1), .val (.long p2), .second, .val (.long p3), .second, .val (.ref a_LT), .val (.ref a_GT_EQ), .val (.int 1), .val (.int 0)] [(.int 1)])) _
    exact retN X6 hx (t := .boolean) Bd.returns (by simp) (hb hby at_89) hr
  · show QT n0 _ T6.heap _
    rw [e6]
    exact ⟨rfl, N6⟩
set_option maxRecDepth 65536 in
set_option maxHeartbeats 40000000 in
theorem rm5_62 (l : Launch) (Z : State) (a0 : Array Value) (hw : ∀ d ∈ tables_1, d.before a0 Z = true) (ws : List Jvm.Cond) (a_GT_EQ : Addr) (p2 : Int64) (p3 : Int64) (a_IS_NULL : Addr) (a_NOT_NULL : Addr) (a_EQ : Addr) (a_NOT_EQ : Addr) (a_LT : Addr) (a_LT_EQ : Addr) (a_GT : Addr) (h0 : Heap) (n0 : Nat) (Z0 : n0 ≤ h0.size) (f1 : S_2 Z h0 (.ref a_IS_NULL)) (f2 : a_GT_EQ ≠ a_IS_NULL) (f3 : S_3 Z h0 (.ref a_NOT_NULL)) (f4 : a_GT_EQ ≠ a_NOT_NULL) (f5 : S_0 Z h0 (.ref a_EQ)) (f6 : a_EQ ≠ a_GT_EQ) (f7 : S_1 Z h0 (.ref a_NOT_EQ)) (f8 : a_NOT_EQ ≠ a_GT_EQ) (f9 : S_4 Z h0 (.ref a_LT)) (f10 : a_LT ≠ a_GT_EQ) (f11 : S_6 Z h0 (.ref a_LT_EQ)) (f12 : a_GT_EQ ≠ a_LT_EQ) (f13 : S_7 Z h0 (.ref a_GT)) (f14 : a_GT_EQ ≠ a_GT) (f15 : S_5 Z h0 (.ref a_GT_EQ)) (f16 : (lcmpW p2 p3) = (1 : Int32)) :
    MetFree l M_5 (head1 (Jvm.Cond.code M_5 method_3_code 6 (some .boolean) :: ws) R_0_0_0_0) (fun a U => a = #[(.ref a_GT_EQ), (.int 0), (.long p2), (.long p3)] ∧ Z.Warmed39 U.vm ∧ U.heap = h0) (fun _ _ _ _ _ => True) (fun _ U o U' => ∃ v L, o = .returned v ∧ QP (some (.int 1)) h0 n0 v U'.heap L ∧ FrameEnd U o U' L R_0_0_0_0.cells R_0_0_0_0.slots) := by
  refine MetFree.of_bodySF (plainFor_of_name pn_com_example_floe_floe_OperationNegatePinLaw) hisR ?_
  intro p e s m args below meth c s₁ Bd hml0 hP hK
  obtain ⟨rfl, hZ, hh⟩ := hP
  have hx := Bd.exec
  have hby := Bd.bytes
  have hml : c.maxLocals = 6 := hml0
  have hown : s.vm.findClass "com/example/floe/floe/OperationNegatePinLaw" = some m.cls := findClass_of_methodNamed Bd.named
  have hnm := (name_of_methodNamed Bd.named Bd.method).1
  have X0 : Stand p l e R_0_0_0_0 s m #[(.ref a_GT_EQ), (.int 0), (.long p2), (.long p3)] below meth c s₁ [] 0 0 := Stand.of_body Bd
  have e0 : s₁.heap = h0 := by rw [← hh, Bd.state]; rfl
  have N0 := Fr.nil n0
  obtain ⟨T1, X1, e1, st1⟩ := getS2 X0 hx hZ hown (host := "") (Or.inl (tw_35 hw)) Via.refl e0 f1 (g := (mkF m 1 #[.val (.ref a_GT_EQ), .val (.int 0), .val (.long p2), .second, .val (.long p3), .second] [(.ref a_GT_EQ)])) rfl (hb hby d5_1)
  obtain ⟨T2, X2, e2, st2⟩ := getS2 X1 hx hZ hown (host := "") (Or.inl (tw_36 hw)) Via.refl e1 f3 (g := (mkF m 10 #[.val (.ref a_GT_EQ), .val (.int 0), .val (.long p2), .second, .val (.long p3), .second] [(.ref a_GT_EQ)])) rfl (hb hby d5_10)
  obtain ⟨T3, X3, e3, st3⟩ := getS2 X2 hx hZ hown (host := "") (Or.inl (tw_4 hw)) Via.refl e2 f5 (g := (mkF m 27 #[.val (.ref a_GT_EQ), .val (.int 0), .val (.long p2), .second, .val (.long p3), .second] [(.ref a_GT_EQ)])) rfl (hb hby d5_27)
  obtain ⟨T4, X4, e4, st4⟩ := getS2 X3 hx hZ hown (host := "") (Or.inl (tw_37 hw)) Via.refl e3 f7 (g := (mkF m 47 #[.val (.ref a_GT_EQ), .val (.int 0), .val (.long p2), .second, .val (.long p3), .second] [(.ref a_GT_EQ)])) rfl (hb hby d5_47)
  obtain ⟨T5, X5, e5, st5⟩ := getS2 X4 hx hZ hown (host := "") (Or.inl (tw_38 hw)) Via.refl e4 f9 (g := (mkF m 67 #[.val (.ref a_GT_EQ), .val (.int 0), .val (.long p2), .second, .val (.long p3), .second] [(.ref a_GT_EQ)])) rfl (hb hby d5_67)
  obtain ⟨T6, X6, e6, st6⟩ := getS2 X5 hx hZ hown (host := "") (Or.inl (tw_42 hw)) Via.refl e5 f11 (g := (mkF m 87 #[.val (.ref a_GT_EQ), .val (.int 0), .val (.long p2), .second, .val (.long p3), .second] [(.ref a_GT_EQ)])) rfl (hb hby d5_87)
  obtain ⟨T7, X7, e7, st7⟩ := getS2 X6 hx hZ hown (host := "") (Or.inl (tw_44 hw)) Via.refl e6 f13 (g := (mkF m 107 #[.val (.ref a_GT_EQ), .val (.int 0), .val (.long p2), .second, .val (.long p3), .second] [(.ref a_GT_EQ)])) rfl (hb hby d5_107)
  obtain ⟨T8, X8, e8, st8⟩ := getS2 X7 hx hZ hown (host := "") (Or.inl (tw_46 hw)) Via.refl e7 f15 (g := (mkF m 127 #[.val (.ref a_GT_EQ), .val (.int 0), .val (.long p2), .second, .val (.long p3), .second] [(.ref a_GT_EQ)])) rfl (hb hby d5_127)
  obtain ⟨fs, hr, hrun, hended, hW, hsame⟩ := X8.leave (v := (some (.int 1))) (fun h => by rw [Bd.returns] at h; cases h)
  refine ⟨_, _, castTop (ef5_RIJJ m a_GT_EQ (0 : Int32) p2 p3) ?_, hrun, hended, _, _, rfl, ?_, ⟨_, rfl⟩, hW, hsame.mono (by decide) (by decide)⟩
  · show Steps p.tables e below (s₁.setTop (mkF m 0 #[.val (.ref a_GT_EQ), .val (.int 0), .val (.long p2), .second, .val (.long p3), .second] [])) _
    refine XS.aloadN X0.here hx rfl (hb hby d5_0) rfl rfl ?_
    show Steps p.tables e below (s₁.setTop (mkF m 1 #[.val (.ref a_GT_EQ), .val (.int 0), .val (.long p2), .second, .val (.long p3), .second] [(.ref a_GT_EQ)])) _
    refine st1 _ ?_
    show Steps p.tables e below (T1.setTop (mkF m 4 #[.val (.ref a_GT_EQ), .val (.int 0), .val (.long p2), .second, .val (.long p3), .second] [(.ref a_IS_NULL), (.ref a_GT_EQ)])) _
    refine Jvm.RoadKit.acmp (g := (mkF m 4 #[.val (.ref a_GT_EQ), .val (.int 0), .val (.long p2), .second, .val (.long p3), .second] [(.ref a_IS_NULL), (.ref a_GT_EQ)])) X1 hx rfl rfl rfl (pc0 := 4) (pc' := 9) (same := false) rfl (hb hby d5_4) rfl (decide_eq_false fun q => f2 (Value.ref.inj q)) (by decide) (by decide) ?_
    refine XS.aloadN X1.here hx rfl (hb hby d5_9) rfl rfl ?_
    show Steps p.tables e below (T1.setTop (mkF m 10 #[.val (.ref a_GT_EQ), .val (.int 0), .val (.long p2), .second, .val (.long p3), .second] [(.ref a_GT_EQ)])) _
    refine st2 _ ?_
    show Steps p.tables e below (T2.setTop (mkF m 13 #[.val (.ref a_GT_EQ), .val (.int 0), .val (.long p2), .second, .val (.long p3), .second] [(.ref a_NOT_NULL), (.ref a_GT_EQ)])) _
    refine Jvm.RoadKit.acmp (g := (mkF m 13 #[.val (.ref a_GT_EQ), .val (.int 0), .val (.long p2), .second, .val (.long p3), .second] [(.ref a_NOT_NULL), (.ref a_GT_EQ)])) X2 hx rfl rfl rfl (pc0 := 13) (pc' := 26) (same := false) rfl (hb hby d5_13) rfl (decide_eq_false fun q => f4 (Value.ref.inj q)) (by decide) (by decide) ?_
    refine XS.aloadN X2.here hx rfl (hb hby d5_26) rfl rfl ?_
    show Steps p.tables e below (T2.setTop (mkF m 27 #[.val (.ref a_GT_EQ), .val (.int 0), .val (.long p2), .second, .val (.long p3), .second] [(.ref a_GT_EQ)])) _
    refine st3 _ ?_
    show Steps p.tables e below (T3.setTop (mkF m 30 #[.val (.ref a_GT_EQ), .val (.int 0), .val (.long p2), .second, .val (.long p3), .second] [(.ref a_EQ), (.ref a_GT_EQ)])) _
    refine Jvm.RoadKit.acmp (g := (mkF m 30 #[.val (.ref a_GT_EQ), .val (.int 0), .val (.long p2), .second, .val (.long p3), .second] [(.ref a_EQ), (.ref a_GT_EQ)])) X3 hx rfl rfl rfl (pc0 := 30) (pc' := 46) (same := false) rfl (hb hby d5_30) rfl (decide_eq_false fun q => (Ne.symm f6) (Value.ref.inj q)) (by decide) (by decide) ?_
    refine XS.aloadN X3.here hx rfl (hb hby d5_46) rfl rfl ?_
    show Steps p.tables e below (T3.setTop (mkF m 47 #[.val (.ref a_GT_EQ), .val (.int 0), .val (.long p2), .second, .val (.long p3), .second] [(.ref a_GT_EQ)])) _
    refine st4 _ ?_
    show Steps p.tables e below (T4.setTop (mkF m 50 #[.val (.ref a_GT_EQ), .val (.int 0), .val (.long p2), .second, .val (.long p3), .second] [(.ref a_NOT_EQ), (.ref a_GT_EQ)])) _
    refine Jvm.RoadKit.acmp (g := (mkF m 50 #[.val (.ref a_GT_EQ), .val (.int 0), .val (.long p2), .second, .val (.long p3), .second] [(.ref a_NOT_EQ), (.ref a_GT_EQ)])) X4 hx rfl rfl rfl (pc0 := 50) (pc' := 66) (same := false) rfl (hb hby d5_50) rfl (decide_eq_false fun q => (Ne.symm f8) (Value.ref.inj q)) (by decide) (by decide) ?_
    refine XS.aloadN X4.here hx rfl (hb hby d5_66) rfl rfl ?_
    show Steps p.tables e below (T4.setTop (mkF m 67 #[.val (.ref a_GT_EQ), .val (.int 0), .val (.long p2), .second, .val (.long p3), .second] [(.ref a_GT_EQ)])) _
    refine st5 _ ?_
    show Steps p.tables e below (T5.setTop (mkF m 70 #[.val (.ref a_GT_EQ), .val (.int 0), .val (.long p2), .second, .val (.long p3), .second] [(.ref a_LT), (.ref a_GT_EQ)])) _
    refine Jvm.RoadKit.acmp (g := (mkF m 70 #[.val (.ref a_GT_EQ), .val (.int 0), .val (.long p2), .second, .val (.long p3), .second] [(.ref a_LT), (.ref a_GT_EQ)])) X5 hx rfl rfl rfl (pc0 := 70) (pc' := 86) (same := false) rfl (hb hby d5_70) rfl (decide_eq_false fun q => (Ne.symm f10) (Value.ref.inj q)) (by decide) (by decide) ?_
    refine XS.aloadN X5.here hx rfl (hb hby d5_86) rfl rfl ?_
    show Steps p.tables e below (T5.setTop (mkF m 87 #[.val (.ref a_GT_EQ), .val (.int 0), .val (.long p2), .second, .val (.long p3), .second] [(.ref a_GT_EQ)])) _
    refine st6 _ ?_
    show Steps p.tables e below (T6.setTop (mkF m 90 #[.val (.ref a_GT_EQ), .val (.int 0), .val (.long p2), .second, .val (.long p3), .second] [(.ref a_LT_EQ), (.ref a_GT_EQ)])) _
    refine Jvm.RoadKit.acmp (g := (mkF m 90 #[.val (.ref a_GT_EQ), .val (.int 0), .val (.long p2), .second, .val (.long p3), .second] [(.ref a_LT_EQ), (.ref a_GT_EQ)])) X6 hx rfl rfl rfl (pc0 := 90) (pc' := 106) (same := false) rfl (hb hby d5_90) rfl (decide_eq_false fun q => f12 (Value.ref.inj q)) (by decide) (by decide) ?_
    refine XS.aloadN X6.here hx rfl (hb hby d5_106) rfl rfl ?_
    show Steps p.tables e below (T6.setTop (mkF m 107 #[.val (.ref a_GT_EQ), .val (.int 0), .val (.long p2), .second, .val (.long p3), .second] [(.ref a_GT_EQ)])) _
    refine st7 _ ?_
    show Steps p.tables e below (T7.setTop (mkF m 110 #[.val (.ref a_GT_EQ), .val (.int 0), .val (.long p2), .second, .val (.long p3), .second] [(.ref a_GT), (.ref a_GT_EQ)])) _
    refine Jvm.RoadKit.acmp (g := (mkF m 110 #[.val (.ref a_GT_EQ), .val (.int 0), .val (.long p2), .second, .val (.long p3), .second] [(.ref a_GT), (.ref a_GT_EQ)])) X7 hx rfl rfl rfl (pc0 := 110) (pc' := 126) (same := false) rfl (hb hby d5_110) rfl (decide_eq_false fun q => f14 (Value.ref.inj q)) (by decide) (by decide) ?_
    refine XS.aloadN X7.here hx rfl (hb hby d5_126) rfl rfl ?_
    show Steps p.tables e below (T7.setTop (mkF m 127 #[.val (.ref a_GT_EQ), .val (.int 0), .val (.long p2), .second, .val (.long p3), .second] [(.ref a_GT_EQ)])) _
    refine st8 _ ?_
    show Steps p.tables e below (T8.setTop (mkF m 130 #[.val (.ref a_GT_EQ), .val (.int 0), .val (.long p2), .second, .val (.long p3), .second] [(.ref a_GT_EQ), (.ref a_GT_EQ)])) _
    refine Jvm.RoadKit.acmp (g := (mkF m 130 #[.val (.ref a_GT_EQ), .val (.int 0), .val (.long p2), .second, .val (.long p3), .second] [(.ref a_GT_EQ), (.ref a_GT_EQ)])) X8 hx rfl rfl rfl (pc0 := 130) (pc' := 133) (same := true) rfl (hb hby d5_130) rfl (decide_eq_true rfl) (by decide) (by decide) ?_
    refine XS.lloadN X8.here hx rfl (hb hby d5_133) rfl ?_
    refine XS.lload X8.here hx rfl (hb hby d5_134) rfl ?_
    show Steps p.tables e below (T8.setTop (mkF m 136 #[.val (.ref a_GT_EQ), .val (.int 0), .val (.long p2), .second, .val (.long p3), .second] [(.long p3), (.long p2)])) _
    refine XS.lcmp X8.here hx rfl (hb hby d5_136) rfl ?_
    show Steps p.tables e below (T8.setTop (mkF m 137 #[.val (.ref a_GT_EQ), .val (.int 0), .val (.long p2), .second, .val (.long p3), .second] [(.int (lcmpW p2 p3))])) _
    rw [f16]
    refine XS.ifNo X8.here hx rfl (hb hby d5_137) rfl (by decide) ?_
    refine XS.iconst X8.here hx rfl (hb hby d5_140) ?_
    refine XS.goto X8.here hx rfl (pc0 := 141) (pc' := 145) rfl (hb hby d5_141) (by decide) (by decide) ?_
    show Steps p.tables e below (T8.setTop (mkF m 145 #[.val (.ref a_GT_EQ), .val (.int 0), .val (.long p2), .second, .val (.long p3), .second] [(.int 1)])) _
    exact retN X8 hx (t := .boolean) Bd.returns (by simp) (hb hby d5_145) hr
  · show QP (some (.int 1)) h0 n0 _ T8.heap _
    rw [e8]
    exact ⟨rfl, N0, rfl⟩
set_option maxRecDepth 65536 in
set_option maxHeartbeats 40000000 in
theorem rm5_63 (l : Launch) (Z : State) (a0 : Array Value) (hw : ∀ d ∈ tables_1, d.before a0 Z = true) (ws : List Jvm.Cond) (a_LT : Addr) (p2 : Int64) (p3 : Int64) (a_IS_NULL : Addr) (a_NOT_NULL : Addr) (a_EQ : Addr) (a_NOT_EQ : Addr) (h0 : Heap) (n0 : Nat) (Z0 : n0 ≤ h0.size) (f1 : S_2 Z h0 (.ref a_IS_NULL)) (f2 : a_LT ≠ a_IS_NULL) (f3 : S_3 Z h0 (.ref a_NOT_NULL)) (f4 : a_LT ≠ a_NOT_NULL) (f5 : S_0 Z h0 (.ref a_EQ)) (f6 : a_EQ ≠ a_LT) (f7 : S_1 Z h0 (.ref a_NOT_EQ)) (f8 : a_NOT_EQ ≠ a_LT) (f9 : S_4 Z h0 (.ref a_LT)) (f10 : (lcmpW p2 p3) = (1 : Int32)) :
    MetFree l M_5 (head1 (Jvm.Cond.code M_5 method_3_code 6 (some .boolean) :: ws) R_0_0_0_0) (fun a U => a = #[(.ref a_LT), (.int 0), (.long p2), (.long p3)] ∧ Z.Warmed39 U.vm ∧ U.heap = h0) (fun _ _ _ _ _ => True) (fun _ U o U' => ∃ v L, o = .returned v ∧ QP (some (.int 0)) h0 n0 v U'.heap L ∧ FrameEnd U o U' L R_0_0_0_0.cells R_0_0_0_0.slots) := by
  refine MetFree.of_bodySF (plainFor_of_name pn_com_example_floe_floe_OperationNegatePinLaw) hisR ?_
  intro p e s m args below meth c s₁ Bd hml0 hP hK
  obtain ⟨rfl, hZ, hh⟩ := hP
  have hx := Bd.exec
  have hby := Bd.bytes
  have hml : c.maxLocals = 6 := hml0
  have hown : s.vm.findClass "com/example/floe/floe/OperationNegatePinLaw" = some m.cls := findClass_of_methodNamed Bd.named
  have hnm := (name_of_methodNamed Bd.named Bd.method).1
  have X0 : Stand p l e R_0_0_0_0 s m #[(.ref a_LT), (.int 0), (.long p2), (.long p3)] below meth c s₁ [] 0 0 := Stand.of_body Bd
  have e0 : s₁.heap = h0 := by rw [← hh, Bd.state]; rfl
  have N0 := Fr.nil n0
  obtain ⟨T1, X1, e1, st1⟩ := getS2 X0 hx hZ hown (host := "") (Or.inl (tw_35 hw)) Via.refl e0 f1 (g := (mkF m 1 #[.val (.ref a_LT), .val (.int 0), .val (.long p2), .second, .val (.long p3), .second] [(.ref a_LT)])) rfl (hb hby d5_1)
  obtain ⟨T2, X2, e2, st2⟩ := getS2 X1 hx hZ hown (host := "") (Or.inl (tw_36 hw)) Via.refl e1 f3 (g := (mkF m 10 #[.val (.ref a_LT), .val (.int 0), .val (.long p2), .second, .val (.long p3), .second] [(.ref a_LT)])) rfl (hb hby d5_10)
  obtain ⟨T3, X3, e3, st3⟩ := getS2 X2 hx hZ hown (host := "") (Or.inl (tw_4 hw)) Via.refl e2 f5 (g := (mkF m 27 #[.val (.ref a_LT), .val (.int 0), .val (.long p2), .second, .val (.long p3), .second] [(.ref a_LT)])) rfl (hb hby d5_27)
  obtain ⟨T4, X4, e4, st4⟩ := getS2 X3 hx hZ hown (host := "") (Or.inl (tw_37 hw)) Via.refl e3 f7 (g := (mkF m 47 #[.val (.ref a_LT), .val (.int 0), .val (.long p2), .second, .val (.long p3), .second] [(.ref a_LT)])) rfl (hb hby d5_47)
  obtain ⟨T5, X5, e5, st5⟩ := getS2 X4 hx hZ hown (host := "") (Or.inl (tw_38 hw)) Via.refl e4 f9 (g := (mkF m 67 #[.val (.ref a_LT), .val (.int 0), .val (.long p2), .second, .val (.long p3), .second] [(.ref a_LT)])) rfl (hb hby d5_67)
  obtain ⟨fs, hr, hrun, hended, hW, hsame⟩ := X5.leave (v := (some (.int 0))) (fun h => by rw [Bd.returns] at h; cases h)
  refine ⟨_, _, castTop (ef5_RIJJ m a_LT (0 : Int32) p2 p3) ?_, hrun, hended, _, _, rfl, ?_, ⟨_, rfl⟩, hW, hsame.mono (by decide) (by decide)⟩
  · show Steps p.tables e below (s₁.setTop (mkF m 0 #[.val (.ref a_LT), .val (.int 0), .val (.long p2), .second, .val (.long p3), .second] [])) _
    refine XS.aloadN X0.here hx rfl (hb hby d5_0) rfl rfl ?_
    show Steps p.tables e below (s₁.setTop (mkF m 1 #[.val (.ref a_LT), .val (.int 0), .val (.long p2), .second, .val (.long p3), .second] [(.ref a_LT)])) _
    refine st1 _ ?_
    show Steps p.tables e below (T1.setTop (mkF m 4 #[.val (.ref a_LT), .val (.int 0), .val (.long p2), .second, .val (.long p3), .second] [(.ref a_IS_NULL), (.ref a_LT)])) _
    refine Jvm.RoadKit.acmp (g := (mkF m 4 #[.val (.ref a_LT), .val (.int 0), .val (.long p2), .second, .val (.long p3), .second] [(.ref a_IS_NULL), (.ref a_LT)])) X1 hx rfl rfl rfl (pc0 := 4) (pc' := 9) (same := false) rfl (hb hby d5_4) rfl (decide_eq_false fun q => f2 (Value.ref.inj q)) (by decide) (by decide) ?_
    refine XS.aloadN X1.here hx rfl (hb hby d5_9) rfl rfl ?_
    show Steps p.tables e below (T1.setTop (mkF m 10 #[.val (.ref a_LT), .val (.int 0), .val (.long p2), .second, .val (.long p3), .second] [(.ref a_LT)])) _
    refine st2 _ ?_
    show Steps p.tables e below (T2.setTop (mkF m 13 #[.val (.ref a_LT), .val (.int 0), .val (.long p2), .second, .val (.long p3), .second] [(.ref a_NOT_NULL), (.ref a_LT)])) _
    refine Jvm.RoadKit.acmp (g := (mkF m 13 #[.val (.ref a_LT), .val (.int 0), .val (.long p2), .second, .val (.long p3), .second] [(.ref a_NOT_NULL), (.ref a_LT)])) X2 hx rfl rfl rfl (pc0 := 13) (pc' := 26) (same := false) rfl (hb hby d5_13) rfl (decide_eq_false fun q => f4 (Value.ref.inj q)) (by decide) (by decide) ?_
    refine XS.aloadN X2.here hx rfl (hb hby d5_26) rfl rfl ?_
    show Steps p.tables e below (T2.setTop (mkF m 27 #[.val (.ref a_LT), .val (.int 0), .val (.long p2), .second, .val (.long p3), .second] [(.ref a_LT)])) _
    refine st3 _ ?_
    show Steps p.tables e below (T3.setTop (mkF m 30 #[.val (.ref a_LT), .val (.int 0), .val (.long p2), .second, .val (.long p3), .second] [(.ref a_EQ), (.ref a_LT)])) _
    refine Jvm.RoadKit.acmp (g := (mkF m 30 #[.val (.ref a_LT), .val (.int 0), .val (.long p2), .second, .val (.long p3), .second] [(.ref a_EQ), (.ref a_LT)])) X3 hx rfl rfl rfl (pc0 := 30) (pc' := 46) (same := false) rfl (hb hby d5_30) rfl (decide_eq_false fun q => (Ne.symm f6) (Value.ref.inj q)) (by decide) (by decide) ?_
    refine XS.aloadN X3.here hx rfl (hb hby d5_46) rfl rfl ?_
    show Steps p.tables e below (T3.setTop (mkF m 47 #[.val (.ref a_LT), .val (.int 0), .val (.long p2), .second, .val (.long p3), .second] [(.ref a_LT)])) _
    refine st4 _ ?_
    show Steps p.tables e below (T4.setTop (mkF m 50 #[.val (.ref a_LT), .val (.int 0), .val (.long p2), .second, .val (.long p3), .second] [(.ref a_NOT_EQ), (.ref a_LT)])) _
    refine Jvm.RoadKit.acmp (g := (mkF m 50 #[.val (.ref a_LT), .val (.int 0), .val (.long p2), .second, .val (.long p3), .second] [(.ref a_NOT_EQ), (.ref a_LT)])) X4 hx rfl rfl rfl (pc0 := 50) (pc' := 66) (same := false) rfl (hb hby d5_50) rfl (decide_eq_false fun q => (Ne.symm f8) (Value.ref.inj q)) (by decide) (by decide) ?_
    refine XS.aloadN X4.here hx rfl (hb hby d5_66) rfl rfl ?_
    show Steps p.tables e below (T4.setTop (mkF m 67 #[.val (.ref a_LT), .val (.int 0), .val (.long p2), .second, .val (.long p3), .second] [(.ref a_LT)])) _
    refine st5 _ ?_
    show Steps p.tables e below (T5.setTop (mkF m 70 #[.val (.ref a_LT), .val (.int 0), .val (.long p2), .second, .val (.long p3), .second] [(.ref a_LT), (.ref a_LT)])) _
    refine Jvm.RoadKit.acmp (g := (mkF m 70 #[.val (.ref a_LT), .val (.int 0), .val (.long p2), .second, .val (.long p3), .second] [(.ref a_LT), (.ref a_LT)])) X5 hx rfl rfl rfl (pc0 := 70) (pc' := 73) (same := true) rfl (hb hby d5_70) rfl (decide_eq_true rfl) (by decide) (by decide) ?_
    refine XS.lloadN X5.here hx rfl (hb hby d5_73) rfl ?_
    refine XS.lload X5.here hx rfl (hb hby d5_74) rfl ?_
    show Steps p.tables e below (T5.setTop (mkF m 76 #[.val (.ref a_LT), .val (.int 0), .val (.long p2), .second, .val (.long p3), .second] [(.long p3), (.long p2)])) _
    refine XS.lcmp X5.here hx rfl (hb hby d5_76) rfl ?_
    show Steps p.tables e below (T5.setTop (mkF m 77 #[.val (.ref a_LT), .val (.int 0), .val (.long p2), .second, .val (.long p3), .second] [(.int (lcmpW p2 p3))])) _
    rw [f10]
    refine XS.ifYes X5.here hx rfl (pc0 := 77) (pc' := 84) rfl (hb hby d5_77) rfl (by decide) (by decide) (by decide) ?_
    refine XS.iconst X5.here hx rfl (hb hby d5_84) ?_
    show Steps p.tables e below (T5.setTop (mkF m 85 #[.val (.ref a_LT), .val (.int 0), .val (.long p2), .second, .val (.long p3), .second] [(.int 0)])) _
    exact retN X5 hx (t := .boolean) Bd.returns (by simp) (hb hby d5_85) hr
  · show QP (some (.int 0)) h0 n0 _ T5.heap _
    rw [e5]
    exact ⟨rfl, N0, rfl⟩
set_option maxRecDepth 65536 in
set_option maxHeartbeats 40000000 in
theorem rm0_64 (l : Launch) (Z : State) (a0 : Array Value) (hw : ∀ d ∈ tables_1, d.before a0 Z = true) (ws : List Jvm.Cond) (p0 : Int32) (p1 : Int32) (p2 : Int64) (p3 : Int64) (a_LT : Addr) (a_GT_EQ : Addr) (a_IS_NULL : Addr) (a_NOT_NULL : Addr) (a_EQ : Addr) (a_NOT_EQ : Addr) (a_LT_EQ : Addr) (a_GT : Addr) (h0 : Heap) (n0 : Nat) (Z0 : n0 ≤ h0.size) (f1 : (p0 &&& (7 : Int32)) = (2 : Int32)) (f2 : S_4 Z h0 (.ref a_LT)) (f3 : F_0 Z h0 a_LT (.int 2)) (f4 : E_0 Z h0 a_LT) (f5 : S_5 Z h0 (.ref a_GT_EQ)) (f6 : S_2 Z h0 (.ref a_IS_NULL)) (f7 : a_IS_NULL ≠ a_LT) (f8 : S_3 Z h0 (.ref a_NOT_NULL)) (f9 : a_NOT_NULL ≠ a_LT) (f10 : a_IS_NULL ≠ a_GT_EQ) (f11 : a_NOT_NULL ≠ a_GT_EQ) (f12 : E_0 Z h0 a_GT_EQ) (f13 : S_0 Z h0 (.ref a_EQ)) (f14 : a_EQ ≠ a_GT_EQ) (f15 : S_1 Z h0 (.ref a_NOT_EQ)) (f16 : a_NOT_EQ ≠ a_GT_EQ) (f17 : a_LT ≠ a_GT_EQ) (f18 : S_6 Z h0 (.ref a_LT_EQ)) (f19 : a_GT_EQ ≠ a_LT_EQ) (f20 : S_7 Z h0 (.ref a_GT)) (f21 : a_GT_EQ ≠ a_GT) (f22 : (lcmpW p2 p3) = (1 : Int32)) (f23 : a_EQ ≠ a_LT) (f24 : a_NOT_EQ ≠ a_LT) :
    MetFree l x (head1 (Jvm.Cond.code x code maxLocals ret :: ws) room_1) (fun a U => a = #[(.int p0), (.int p1), (.long p2), (.long p3)] ∧ Z.Warmed39 U.vm ∧ U.heap = h0) (fun _ _ _ _ _ => True) (fun _ U o U' => ∃ v L, o = .returned v ∧ QT n0 v U'.heap L ∧ FrameEnd U o U' L room_1.cells room_1.slots) := by
  refine MetFree.of_bodySF (plainFor_of_name pn_com_example_floe_floe_OperationNegatePinLaw) hisR ?_
  intro p e s m args below meth c s₁ Bd hml0 hP hK
  obtain ⟨rfl, hZ, hh⟩ := hP
  have hx := Bd.exec
  have hby := Bd.bytes
  have hml : c.maxLocals = 10 := hml0
  have hown : s.vm.findClass "com/example/floe/floe/OperationNegatePinLaw" = some m.cls := findClass_of_methodNamed Bd.named
  have hnm := (name_of_methodNamed Bd.named Bd.method).1
  have X0 : Stand p l e room_1 s m #[(.int p0), (.int p1), (.long p2), (.long p3)] below meth c s₁ [] 0 0 := Stand.of_body Bd
  have e0 : s₁.heap = h0 := by rw [← hh, Bd.state]; rfl
  have N0 := Fr.nil n0
  -- pc 1: com/example/floe/floe/OperationNegatePinLaw.pick
  obtain ⟨_, _, ⟨T1, L1, k1, n1⟩, -, X1, ⟨Lc1, hQ1, l1, y1, z1⟩, st1⟩ := Jvm.LawKit.callS X0 hx (y := M_0) hown (mvT hZ (tw_0 hw)) (mvT hZ (tw_1 hw)) (mvT hZ (tw_2 hw)) (mvT hZ (tw_3 hw)) (by decide) (backOf (W := 0) (rm1_51 l Z a0 hw [] p0 a_LT h0 n0 Z0 f1 f2) hZ (tw_3 hw) (tw_2 hw) (by decide) (by decide)) (g := (mkF m 1 #[.val (.int p0), .val (.int p1), .val (.long p2), .second, .val (.long p3), .second, .unset, .unset, .unset, .unset] [(.int p0)])) rfl (by rw [hml]; rfl) (argsL := [(.int p0)]) (rest := []) (lenOf pd_0 rfl) rfl (by show 2 * 0 + _ ≤ _; exact Nat.le_of_eq rfl) (hb hby at_1) (fun _ _ => ⟨rfl, e0, (by decide : 0 + 0 ≤ _), (by decide : 0 + 0 ≤ _)⟩)
  dsimp only [Pt.U, Pt.locs, Pt.cells, Pt.slots] at X1 l1 y1 z1 st1 hQ1
  subst l1 y1 z1
  obtain ⟨rfl, Nq1, e1⟩ := hQ1
  have N1 := Fr.app N0 Nq1
  -- pc 8: com/example/floe/floe/Expression$Operation.negate
  obtain ⟨cq2, kq2, q2a, q2b, q2c⟩ := isOf hZ e1 f4
  obtain ⟨_, _, ⟨T2, L2, k2, n2⟩, -, X2, ⟨Lc2, hQ2, l2, y2, z2⟩, st2⟩ := X1.virtualBack hx (y := M_3) (z := M_3) hown (mvT hZ (tw_7 hw)) (mvT hZ (tw_8 hw)) (notFace_of_selects (args := #[]) (mvT hZ (tw_10 hw))) (mvT hZ (tw_10 hw)) (mvT hZ (tw_9 hw)) (by decide) (backOf (W := 0) (rm2_53 l Z a0 hw [] a_LT a_GT_EQ h0 n0 Z0 f3 f4 f5) hZ (tw_11 hw) (tw_5 hw) (by decide) (by decide)) q2a q2c (g := (mkF m 8 #[.val (.int p0), .val (.int p1), .val (.long p2), .second, .val (.long p3), .second, .val (.ref a_LT), .unset, .unset, .unset] [(.ref a_LT)])) rfl (by rw [hml]; rfl) (Steps.refl _) (argsL := []) (rest := []) (lenOf pd_2 rfl) rfl (by show 2 * 0 + _ ≤ _; exact Nat.le_of_eq rfl) (hb hby at_8) (fun _ _ => ⟨rfl, e1, (by decide : 0 + 0 ≤ _), (by decide : 0 + 0 ≤ _)⟩)
  dsimp only [Pt.U, Pt.locs, Pt.cells, Pt.slots] at X2 l2 y2 z2 st2 hQ2
  subst l2 y2 z2
  obtain ⟨rfl, Nq2, e2⟩ := hQ2
  have N2 := Fr.app N1 Nq2
  -- pc 22: com/example/floe/floe/Expression$Operation.compares
  obtain ⟨cq3, kq3, q3a, q3b, q3c⟩ := isOf hZ e2 f4
  obtain ⟨_, _, ⟨T3, L3, k3, n3⟩, -, X3, ⟨Lc3, hQ3, l3, y3, z3⟩, st3⟩ := X2.virtualBack hx (y := M_4) (z := M_4) hown (mvT hZ (tw_23 hw)) (mvT hZ (tw_24 hw)) (notFace_of_selects (args := #[]) (mvT hZ (tw_26 hw))) (mvT hZ (tw_26 hw)) (mvT hZ (tw_25 hw)) (by decide) (backOf (W := 0) (rm4_54 l Z a0 hw [] a_LT a_IS_NULL a_NOT_NULL h0 n0 Z0 f6 f7 f8 f9) hZ (tw_27 hw) (tw_5 hw) (by decide) (by decide)) q3a q3c (g := (mkF m 22 #[.val (.int p0), .val (.int p1), .val (.long p2), .second, .val (.long p3), .second, .val (.ref a_LT), .val (.ref a_GT_EQ), .unset, .unset] [(.ref a_LT)])) rfl (by rw [hml]; rfl) (Steps.refl _) (argsL := []) (rest := []) (lenOf pd_3 rfl) rfl (by show 2 * 0 + _ ≤ _; exact Nat.le_of_eq rfl) (hb hby at_22) (fun _ _ => ⟨rfl, e2, (by decide : 0 + 0 ≤ _), (by decide : 0 + 0 ≤ _)⟩)
  dsimp only [Pt.U, Pt.locs, Pt.cells, Pt.slots] at X3 l3 y3 z3 st3 hQ3
  subst l3 y3 z3
  obtain ⟨rfl, Nq3, e3⟩ := hQ3
  have N3 := Fr.app N2 Nq3
  -- pc 51: com/example/floe/floe/Expression$Operation.compares
  obtain ⟨cq4, kq4, q4a, q4b, q4c⟩ := isOf hZ e3 f12
  obtain ⟨_, _, ⟨T4, L4, k4, n4⟩, -, X4, ⟨Lc4, hQ4, l4, y4, z4⟩, st4⟩ := X3.virtualBack hx (y := M_4) (z := M_4) hown (mvT hZ (tw_23 hw)) (mvT hZ (tw_24 hw)) (notFace_of_selects (args := #[]) (mvT hZ (tw_26 hw))) (mvT hZ (tw_26 hw)) (mvT hZ (tw_25 hw)) (by decide) (backOf (W := 0) (rm4_55 l Z a0 hw [] a_GT_EQ a_IS_NULL a_NOT_NULL h0 n0 Z0 f6 f10 f8 f11) hZ (tw_27 hw) (tw_5 hw) (by decide) (by decide)) q4a q4c (g := (mkF m 51 #[.val (.int p0), .val (.int p1), .val (.long p2), .second, .val (.long p3), .second, .val (.ref a_LT), .val (.ref a_GT_EQ), .val (.int 1), .val (.int 0)] [(.ref a_GT_EQ)])) rfl (by rw [hml]; rfl) (Steps.refl _) (argsL := []) (rest := []) (lenOf pd_3 rfl) rfl (by show 2 * 0 + _ ≤ _; exact Nat.le_of_eq rfl) (hb hby at_51) (fun _ _ => ⟨rfl, e3, (by decide : 0 + 0 ≤ _), (by decide : 0 + 0 ≤ _)⟩)
  dsimp only [Pt.U, Pt.locs, Pt.cells, Pt.slots] at X4 l4 y4 z4 st4 hQ4
  subst l4 y4 z4
  obtain ⟨rfl, Nq4, e4⟩ := hQ4
  have N4 := Fr.app N3 Nq4
  -- pc 68: com/example/floe/floe/OperationNegatePinLaw.holds
  obtain ⟨_, _, ⟨T5, L5, k5, n5⟩, -, X5, ⟨Lc5, hQ5, l5, y5, z5⟩, st5⟩ := Jvm.LawKit.callS X4 hx (y := M_5) hown (mvT hZ (tw_32 hw)) (mvT hZ (tw_33 hw)) (mvT hZ (tw_2 hw)) (mvT hZ (tw_34 hw)) (by decide) (backOf (W := 0) (rm5_62 l Z a0 hw [] a_GT_EQ p2 p3 a_IS_NULL a_NOT_NULL a_EQ a_NOT_EQ a_LT a_LT_EQ a_GT h0 n0 Z0 f6 (Ne.symm f10) f8 (Ne.symm f11) f13 f14 f15 f16 f2 f17 f18 f19 f20 f21 f5 f22) hZ (tw_34 hw) (tw_2 hw) (by decide) (by decide)) (g := (mkF m 68 #[.val (.int p0), .val (.int p1), .val (.long p2), .second, .val (.long p3), .second, .val (.ref a_LT), .val (.ref a_GT_EQ), .val (.int 1), .val (.int 0)] [(.long p3), (.long p2), (.int 0), (.ref a_GT_EQ)])) rfl (by rw [hml]; rfl) (argsL := [(.ref a_GT_EQ), (.int 0), (.long p2), (.long p3)]) (rest := []) (lenOf pd_4 rfl) rfl (by show 2 * 0 + _ ≤ _; exact Nat.le_of_eq rfl) (hb hby at_68) (fun _ _ => ⟨rfl, e4, (by decide : 0 + 0 ≤ _), (by decide : 0 + 0 ≤ _)⟩)
  dsimp only [Pt.U, Pt.locs, Pt.cells, Pt.slots] at X5 l5 y5 z5 st5 hQ5
  subst l5 y5 z5
  obtain ⟨rfl, Nq5, e5⟩ := hQ5
  have N5 := Fr.app N4 Nq5
  -- pc 78: com/example/floe/floe/OperationNegatePinLaw.holds
  obtain ⟨_, _, ⟨T6, L6, k6, n6⟩, -, X6, ⟨Lc6, hQ6, l6, y6, z6⟩, st6⟩ := Jvm.LawKit.callS X5 hx (y := M_5) hown (mvT hZ (tw_32 hw)) (mvT hZ (tw_33 hw)) (mvT hZ (tw_2 hw)) (mvT hZ (tw_34 hw)) (by decide) (backOf (W := 1) (rm5_63 l Z a0 hw [] a_LT p2 p3 a_IS_NULL a_NOT_NULL a_EQ a_NOT_EQ h0 n0 Z0 f6 (Ne.symm f7) f8 (Ne.symm f9) f13 f23 f15 f24 f2 f22) hZ (tw_34 hw) (tw_2 hw) (by decide) (by decide)) (g := (mkF m 78 #[.val (.int p0), .val (.int p1), .val (.long p2), .second, .val (.long p3), .second, .val (.ref a_LT), .val (.ref a_GT_EQ), .val (.int 1), .val (.int 0)] [(.long p3), (.long p2), (.int 0), (.ref a_LT), (.int 1)])) rfl (by rw [hml]; rfl) (argsL := [(.ref a_LT), (.int 0), (.long p2), (.long p3)]) (rest := [(.int 1)]) (lenOf pd_4 rfl) rfl (by show 2 * 0 + _ ≤ _; exact Nat.le_of_eq rfl) (hb hby at_78) (fun _ _ => ⟨rfl, e5, (by decide : 0 + 0 ≤ _), (by decide : 0 + 0 ≤ _)⟩)
  dsimp only [Pt.U, Pt.locs, Pt.cells, Pt.slots] at X6 l6 y6 z6 st6 hQ6
  subst l6 y6 z6
  obtain ⟨rfl, Nq6, e6⟩ := hQ6
  have N6 := Fr.app N5 Nq6
  obtain ⟨fs, hr, hrun, hended, hW, hsame⟩ := X6.leave (v := (some (.int 1))) (fun h => by rw [Bd.returns] at h; cases h)
  refine ⟨_, _, castTop (ef0_IIJJ m p0 p1 p2 p3) ?_, hrun, hended, _, _, rfl, ?_, ⟨_, rfl⟩, hW, hsame.mono (by decide) (by decide)⟩
  · show Steps p.tables e below (s₁.setTop (mkF m 0 #[.val (.int p0), .val (.int p1), .val (.long p2), .second, .val (.long p3), .second, .unset, .unset, .unset, .unset] [])) _
    refine XS.iloadN X0.here hx rfl (hb hby at_0) rfl ?_
    show Steps p.tables e below (s₁.setTop (mkF m 1 #[.val (.int p0), .val (.int p1), .val (.long p2), .second, .val (.long p3), .second, .unset, .unset, .unset, .unset] [(.int p0)])) _
    refine st1 _ ?_
    refine XS.astore X1.here hx rfl (hb hby at_4) rfl rfl (l' := #[.val (.int p0), .val (.int p1), .val (.long p2), .second, .val (.long p3), .second, .val (.ref a_LT), .unset, .unset, .unset]) rfl ?_
    refine XS.aload X1.here hx rfl (hb hby at_6) rfl rfl ?_
    show Steps p.tables e below (T1.setTop (mkF m 8 #[.val (.int p0), .val (.int p1), .val (.long p2), .second, .val (.long p3), .second, .val (.ref a_LT), .unset, .unset, .unset] [(.ref a_LT)])) _
    refine st2.trans ?_
    refine XS.astore X2.here hx rfl (hb hby at_11) rfl rfl (l' := #[.val (.int p0), .val (.int p1), .val (.long p2), .second, .val (.long p3), .second, .val (.ref a_LT), .val (.ref a_GT_EQ), .unset, .unset]) rfl ?_
    refine XS.aload X2.here hx rfl (hb hby at_13) rfl rfl ?_
    refine XS.ifnonnullYes X2.here hx rfl (pc0 := 15) (pc' := 20) rfl (hb hby at_15) rfl (by decide) (by decide) ?_
    refine XS.aload X2.here hx rfl (hb hby at_20) rfl rfl ?_
    show Steps p.tables e below (T2.setTop (mkF m 22 #[.val (.int p0), .val (.int p1), .val (.long p2), .second, .val (.long p3), .second, .val (.ref a_LT), .val (.ref a_GT_EQ), .unset, .unset] [(.ref a_LT)])) _
    refine st3.trans ?_
    refine XS.istore X3.here hx rfl (hb hby at_25) rfl (l' := #[.val (.int p0), .val (.int p1), .val (.long p2), .second, .val (.long p3), .second, .val (.ref a_LT), .val (.ref a_GT_EQ), .val (.int 1), .unset]) rfl ?_
    refine XS.iload X3.here hx rfl (hb hby at_27) rfl ?_
    refine XS.ifNo X3.here hx rfl (hb hby at_29) rfl (by decide) ?_
    refine XS.iconst X3.here hx rfl (hb hby at_32) ?_
    show Steps p.tables e below (T3.setTop (mkF m 33 #[.val (.int p0), .val (.int p1), .val (.long p2), .second, .val (.long p3), .second, .val (.ref a_LT), .val (.ref a_GT_EQ), .val (.int 1), .unset] [(.int 0)])) _
    refine XS.goto X3.here hx rfl (pc0 := 33) (pc' := 47) rfl (hb hby at_33) (by decide) (by decide) ?_
    refine XS.istore X3.here hx rfl (hb hby at_47) rfl (l' := #[.val (.int p0), .val (.int p1), .val (.long p2), .second, .val (.long p3), .second, .val (.ref a_LT), .val (.ref a_GT_EQ), .val (.int 1), .val (.int 0)]) rfl ?_
    refine XS.aload X3.here hx rfl (hb hby at_49) rfl rfl ?_
    show Steps p.tables e below (T3.setTop (mkF m 51 #[.val (.int p0), .val (.int p1), .val (.long p2), .second, .val (.long p3), .second, .val (.ref a_LT), .val (.ref a_GT_EQ), .val (.int 1), .val (.int 0)] [(.ref a_GT_EQ)])) _
    refine st4.trans ?_
    refine XS.iload X4.here hx rfl (hb hby at_54) rfl ?_
    refine XS.icmpYes X4.here hx rfl (pc0 := 56) (pc' := 61) rfl (hb hby at_56) rfl (by decide) (by decide) (by decide) ?_
    refine XS.aload X4.here hx rfl (hb hby at_61) rfl rfl ?_
    refine XS.iload X4.here hx rfl (hb hby at_63) rfl ?_
    show Steps p.tables e below (T4.setTop (mkF m 65 #[.val (.int p0), .val (.int p1), .val (.long p2), .second, .val (.long p3), .second, .val (.ref a_LT), .val (.ref a_GT_EQ), .val (.int 1), .val (.int 0)] [(.int 0), (.ref a_GT_EQ)])) _
    refine XS.lloadN X4.here hx rfl (hb hby at_65) rfl ?_
    refine XS.lload X4.here hx rfl (hb hby at_66) rfl ?_
    show Steps p.tables e below (T4.setTop (mkF m 68 #[.val (.int p0), .val (.int p1), .val (.long p2), .second, .val (.long p3), .second, .val (.ref a_LT), .val (.ref a_GT_EQ), .val (.int 1), .val (.int 0)] [(.long p3), (.long p2), (.int 0), (.ref a_GT_EQ)])) _
    refine st5 _ ?_
    refine XS.aload X5.here hx rfl (hb hby at_71) rfl rfl ?_
    refine XS.iload X5.here hx rfl (hb hby at_73) rfl ?_
    refine XS.lloadN X5.here hx rfl (hb hby at_75) rfl ?_
    refine XS.lload X5.here hx rfl (hb hby at_76) rfl ?_
    show Steps p.tables e below (T5.setTop (mkF m 78 #[.val (.int p0), .val (.int p1), .val (.long p2), .second, .val (.long p3), .second, .val (.ref a_LT), .val (.ref a_GT_EQ), .val (.int 1), .val (.int 0)] [(.long p3), (.long p2), (.int 0), (.ref a_LT), (.int 1)])) _
    refine st6 _ ?_
    refine XS.icmpNo X6.here hx rfl (hb hby at_81) rfl (by decide) ?_
    refine XS.iconst X6.here hx rfl (hb hby at_84) ?_
    refine XS.goto X6.here hx rfl (pc0 := 85) (pc' := 89) rfl (hb hby at_85) (by decide) (by decide) ?_
    show Steps p.tables e below (T6.setTop (mkF m 89 #[.val (.int p0), .val (.int p1), .val (.long p2), .second, .val (.long p3), .second, .val (.ref a_LT), .val (.ref a_GT_EQ), .val (.int 1), .val (.int 0)] [(.int 1)])) _
    exact retN X6 hx (t := .boolean) Bd.returns (by simp) (hb hby at_89) hr
  · show QT n0 _ T6.heap _
    rw [e6]
    exact ⟨rfl, N6⟩
theorem d1_31 : decode method_2_code 31 = .ok (.iload_n 1, 1) := by decide +kernel
theorem d1_32 : decode method_2_code 32 = .ok (.iconst 3, 1) := by decide +kernel
theorem d1_33 : decode method_2_code 33 = .ok (.if_icmp .ne 7, 3) := by decide +kernel
theorem d1_36 : decode method_2_code 36 = .ok (.getstatic 19, 3) := by decide +kernel
theorem d1_39 : decode method_2_code 39 = .ok (.areturn, 1) := by decide +kernel
set_option maxRecDepth 65536 in
set_option maxHeartbeats 40000000 in
theorem rm1_65 (l : Launch) (Z : State) (a0 : Array Value) (hw : ∀ d ∈ tables_1, d.before a0 Z = true) (ws : List Jvm.Cond) (p0 : Int32) (a_LT_EQ : Addr) (h0 : Heap) (n0 : Nat) (Z0 : n0 ≤ h0.size) (f1 : (p0 &&& (7 : Int32)) = (3 : Int32)) (f2 : S_6 Z h0 (.ref a_LT_EQ)) :
    MetFree l M_0 (head1 (Jvm.Cond.code M_0 method_2_code 2 (some (.object "com/example/floe/floe/Expression$Operation")) :: ws) R_0_0_0_0) (fun a U => a = #[(.int p0)] ∧ Z.Warmed39 U.vm ∧ U.heap = h0) (fun _ _ _ _ _ => True) (fun _ U o U' => ∃ v L, o = .returned v ∧ QP (some (.ref a_LT_EQ)) h0 n0 v U'.heap L ∧ FrameEnd U o U' L R_0_0_0_0.cells R_0_0_0_0.slots) := by
  refine MetFree.of_bodySF (plainFor_of_name pn_com_example_floe_floe_OperationNegatePinLaw) hisR ?_
  intro p e s m args below meth c s₁ Bd hml0 hP hK
  obtain ⟨rfl, hZ, hh⟩ := hP
  have hx := Bd.exec
  have hby := Bd.bytes
  have hml : c.maxLocals = 2 := hml0
  have hown : s.vm.findClass "com/example/floe/floe/OperationNegatePinLaw" = some m.cls := findClass_of_methodNamed Bd.named
  have hnm := (name_of_methodNamed Bd.named Bd.method).1
  have X0 : Stand p l e R_0_0_0_0 s m #[(.int p0)] below meth c s₁ [] 0 0 := Stand.of_body Bd
  have e0 : s₁.heap = h0 := by rw [← hh, Bd.state]; rfl
  have N0 := Fr.nil n0
  obtain ⟨T1, X1, e1, st1⟩ := getS2 X0 hx hZ hown (host := "") (Or.inl (tw_42 hw)) Via.refl e0 f2 (g := (mkF m 36 #[.val (.int p0), .val (.int 3)] [])) rfl (hb hby d1_36)
  obtain ⟨fs, hr, hrun, hended, hW, hsame⟩ := X1.leave (v := (some (.ref a_LT_EQ))) (fun h => by rw [Bd.returns] at h; cases h)
  refine ⟨_, _, castTop (ef1_I m p0) ?_, hrun, hended, _, _, rfl, ?_, ⟨_, rfl⟩, hW, hsame.mono (by decide) (by decide)⟩
  · show Steps p.tables e below (s₁.setTop (mkF m 0 #[.val (.int p0), .unset] [])) _
    refine XS.iloadN X0.here hx rfl (hb hby d1_0) rfl ?_
    refine XS.bipush X0.here hx rfl (hb hby d1_1) ?_
    show Steps p.tables e below (s₁.setTop (mkF m 3 #[.val (.int p0), .unset] [(.int 7), (.int p0)])) _
    refine XS.iand X0.here hx rfl (hb hby d1_3) rfl ?_
    show Steps p.tables e below (s₁.setTop (mkF m 4 #[.val (.int p0), .unset] [(.int (p0 &&& (7 : Int32)))])) _
    rw [f1]
    refine XS.istoreN X0.here hx rfl (hb hby d1_4) rfl (l' := #[.val (.int p0), .val (.int 3)]) rfl ?_
    refine XS.iloadN X0.here hx rfl (hb hby d1_5) rfl ?_
    refine XS.ifYes X0.here hx rfl (pc0 := 6) (pc' := 13) rfl (hb hby d1_6) rfl (by decide) (by decide) (by decide) ?_
    refine XS.iloadN X0.here hx rfl (hb hby d1_13) rfl ?_
    show Steps p.tables e below (s₁.setTop (mkF m 14 #[.val (.int p0), .val (.int 3)] [(.int 3)])) _
    refine XS.iconst X0.here hx rfl (hb hby d1_14) ?_
    refine XS.icmpYes X0.here hx rfl (pc0 := 15) (pc' := 22) rfl (hb hby d1_15) rfl (by decide) (by decide) (by decide) ?_
    refine XS.iloadN X0.here hx rfl (hb hby d1_22) rfl ?_
    refine XS.iconst X0.here hx rfl (hb hby d1_23) ?_
    refine XS.icmpYes X0.here hx rfl (pc0 := 24) (pc' := 31) rfl (hb hby d1_24) rfl (by decide) (by decide) (by decide) ?_
    show Steps p.tables e below (s₁.setTop (mkF m 31 #[.val (.int p0), .val (.int 3)] [])) _
    refine XS.iloadN X0.here hx rfl (hb hby d1_31) rfl ?_
    refine XS.iconst X0.here hx rfl (hb hby d1_32) ?_
    refine XS.icmpNo X0.here hx rfl (hb hby d1_33) rfl (by decide) ?_
    show Steps p.tables e below (s₁.setTop (mkF m 36 #[.val (.int p0), .val (.int 3)] [])) _
    refine st1 _ ?_
    show Steps p.tables e below (T1.setTop (mkF m 39 #[.val (.int p0), .val (.int 3)] [(.ref a_LT_EQ)])) _
    jvm_step X1.here [X1.here.top, hx, (hb hby d1_39), X1.method', Bd.returns, Value.isRef, FieldType.isReference]
    first | (intro acts; rw [hr _ acts rfl rfl rfl]) | rw [hr _ _ rfl rfl rfl]
    exact Steps.refl _
  · show QP (some (.ref a_LT_EQ)) h0 n0 _ T1.heap _
    rw [e1]
    exact ⟨rfl, N0, rfl⟩
set_option maxRecDepth 65536 in
set_option maxHeartbeats 40000000 in
theorem rm3_66 (l : Launch) (Z : State) (a0 : Array Value) (hw : ∀ d ∈ tables_1, d.before a0 Z = true) (ws : List Jvm.Cond) (a_LT_EQ : Addr) (h0 : Heap) (n0 : Nat) (Z0 : n0 ≤ h0.size) (f1 : F_0 Z h0 a_LT_EQ (.int 3)) :
    MetFree l M_1 (head1 (Jvm.Cond.code M_1 jdk_37_method_2_code 1 (some .int) :: ws) R_0_0_0_0) (fun a U => a = #[(.ref a_LT_EQ)] ∧ Z.Warmed39 U.vm ∧ U.heap = h0) (fun _ _ _ _ _ => True) (fun _ U o U' => ∃ v L, o = .returned v ∧ QP (some (.int 3)) h0 n0 v U'.heap L ∧ FrameEnd U o U' L R_0_0_0_0.cells R_0_0_0_0.slots) := by
  refine MetFree.of_bodySF (plainFor_of_name pn_java_lang_Enum) hisR ?_
  intro p e s m args below meth c s₁ Bd hml0 hP hK
  obtain ⟨rfl, hZ, hh⟩ := hP
  have hx := Bd.exec
  have hby := Bd.bytes
  have hml : c.maxLocals = 1 := hml0
  have hown : s.vm.findClass "java/lang/Enum" = some m.cls := findClass_of_methodNamed Bd.named
  have hnm := (name_of_methodNamed Bd.named Bd.method).1
  have X0 : Stand p l e R_0_0_0_0 s m #[(.ref a_LT_EQ)] below meth c s₁ [] 0 0 := Stand.of_body Bd
  have e0 : s₁.heap = h0 := by rw [← hh, Bd.state]; rfl
  have N0 := Fr.nil n0
  obtain ⟨T1, X1, e1, st1⟩ := getF X0 hx hZ hown (host := "") (Or.inl (tw_19 hw)) Via.refl e0 f1 (g := (mkF m 1 #[.val (.ref a_LT_EQ)] [(.ref a_LT_EQ)])) rfl rfl (hb hby d3_1)
  obtain ⟨fs, hr, hrun, hended, hW, hsame⟩ := X1.leave (v := (some (.int 3))) (fun h => by rw [Bd.returns] at h; cases h)
  refine ⟨_, _, castTop (ef3_R m a_LT_EQ) ?_, hrun, hended, _, _, rfl, ?_, ⟨_, rfl⟩, hW, hsame.mono (by decide) (by decide)⟩
  · show Steps p.tables e below (s₁.setTop (mkF m 0 #[.val (.ref a_LT_EQ)] [])) _
    refine XS.aloadN X0.here hx rfl (hb hby d3_0) rfl rfl ?_
    show Steps p.tables e below (s₁.setTop (mkF m 1 #[.val (.ref a_LT_EQ)] [(.ref a_LT_EQ)])) _
    refine st1 _ ?_
    show Steps p.tables e below (T1.setTop (mkF m 4 #[.val (.ref a_LT_EQ)] [(.int 3)])) _
    exact retI X1 hx Bd.returns (hb hby d3_4) hr
  · show QP (some (.int 3)) h0 n0 _ T1.heap _
    rw [e1]
    exact ⟨rfl, N0, rfl⟩
theorem d2_80 : decode prog_13_method_7_code 80 = .ok (.getstatic 16, 3) := by decide +kernel
theorem tw_48 {a0 : Array Value} {Z : State} (hw : ∀ d ∈ tables_1, d.before a0 Z = true) : (Jvm.Cond.fieldLink "com/example/floe/floe/Expression$Operation" (16 : Nat) "com/example/floe/floe/Expression$Operation" "GT" "Lcom/example/floe/floe/Expression$Operation;").before a0 Z = true := hw _ (List.mem_of_getElem? (i := 48) rfl)
theorem d2_83 : decode prog_13_method_7_code 83 = .ok (.goto 24, 3) := by decide +kernel
set_option maxRecDepth 65536 in
set_option maxHeartbeats 40000000 in
theorem rm2_67 (l : Launch) (Z : State) (a0 : Array Value) (hw : ∀ d ∈ tables_1, d.before a0 Z = true) (ws : List Jvm.Cond) (a_LT_EQ : Addr) (a_GT : Addr) (h0 : Heap) (n0 : Nat) (Z0 : n0 ≤ h0.size) (f1 : F_0 Z h0 a_LT_EQ (.int 3)) (f2 : E_0 Z h0 a_LT_EQ) (f3 : S_7 Z h0 (.ref a_GT)) :
    MetFree l M_3 (head1 (Jvm.Cond.code M_3 prog_13_method_7_code 1 (some (.object "com/example/floe/floe/Expression$Operation")) :: ws) R_1_0_0_12) (fun a U => a = #[(.ref a_LT_EQ)] ∧ Z.Warmed39 U.vm ∧ U.heap = h0) (fun _ _ _ _ _ => True) (fun _ U o U' => ∃ v L, o = .returned v ∧ QP (some (.ref a_GT)) h0 n0 v U'.heap L ∧ FrameEnd U o U' L R_1_0_0_12.cells R_1_0_0_12.slots) := by
  refine MetFree.of_bodySF (plainFor_of_name pn_com_example_floe_floe_Expression_Operation) hisR ?_
  intro p e s m args below meth c s₁ Bd hml0 hP hK
  obtain ⟨rfl, hZ, hh⟩ := hP
  have hx := Bd.exec
  have hby := Bd.bytes
  have hml : c.maxLocals = 1 := hml0
  have hown : s.vm.findClass "com/example/floe/floe/Expression$Operation" = some m.cls := findClass_of_methodNamed Bd.named
  have hnm := (name_of_methodNamed Bd.named Bd.method).1
  have X0 : Stand p l e R_1_0_0_12 s m #[(.ref a_LT_EQ)] below meth c s₁ [] 0 0 := Stand.of_body Bd
  have e0 : s₁.heap = h0 := by rw [← hh, Bd.state]; rfl
  have N0 := Fr.nil n0
  -- pc 1: java/lang/Enum.ordinal
  obtain ⟨cq1, kq1, q1a, q1b, q1c⟩ := isOf hZ e0 f2
  obtain ⟨_, _, ⟨T1, L1, k1, n1⟩, -, X1, ⟨Lc1, hQ1, l1, y1, z1⟩, st1⟩ := X0.virtualBackUp hx (x := M_2) (y := M_1) (owner := "java/lang/Enum") hown (mvT hZ (tw_12 hw)) (mvT hZ (tw_13 hw)) (mvT hZ (tw_14 hw)) (by decide) (mvT hZ (tw_16 hw)) (mvT hZ (tw_15 hw)) (backOf (W := 0) (rm3_66 l Z a0 hw [] a_LT_EQ h0 n0 Z0 f1) hZ (tw_18 hw) (tw_17 hw) (by decide) (by decide)) q1a q1c (g := (mkF m 1 #[.val (.ref a_LT_EQ)] [(.ref a_LT_EQ)])) rfl (by rw [hml]; rfl) (Steps.refl _) (argsL := []) (rest := []) (lenOf pd_1 rfl) rfl (by show 2 * 0 + _ ≤ _; exact Nat.le_of_eq rfl) (hb hby d2_1) (fun _ _ => ⟨rfl, e0, (by decide : 0 + 0 ≤ _), (by decide : 0 + 0 ≤ _)⟩)
  dsimp only [Pt.U, Pt.locs, Pt.cells, Pt.slots] at X1 l1 y1 z1 st1 hQ1
  subst l1 y1 z1
  obtain ⟨rfl, Nq1, e1⟩ := hQ1
  have N1 := Fr.app N0 Nq1
  obtain ⟨T2, X2, e2, st2⟩ := getS2 X1 hx hZ hown (host := "") (Or.inl (tw_48 hw)) Via.refl e1 f3 (g := (mkF m 80 #[.val (.ref a_LT_EQ)] [])) rfl (hb hby d2_80)
  obtain ⟨fs, hr, hrun, hended, hW, hsame⟩ := X2.leave (v := (some (.ref a_GT))) (fun h => by rw [Bd.returns] at h; cases h)
  refine ⟨_, _, castTop (ef2_R m a_LT_EQ) ?_, hrun, hended, _, _, rfl, ?_, ⟨_, rfl⟩, hW, hsame.mono (by decide) (by decide)⟩
  · show Steps p.tables e below (s₁.setTop (mkF m 0 #[.val (.ref a_LT_EQ)] [])) _
    refine XS.aloadN X0.here hx rfl (hb hby d2_0) rfl rfl ?_
    show Steps p.tables e below (s₁.setTop (mkF m 1 #[.val (.ref a_LT_EQ)] [(.ref a_LT_EQ)])) _
    refine st1.trans ?_
    show Steps p.tables e below (T1.setTop (mkF m 4 #[.val (.ref a_LT_EQ)] [(.int 3)])) _
    refine XS.tswIn X1.here hx rfl (pc0 := 4) (pc' := 80) (o := 76) rfl (hb hby d2_4) rfl (by decide) (by decide) (by decide) (by decide) ?_
    show Steps p.tables e below (T1.setTop (mkF m 80 #[.val (.ref a_LT_EQ)] [])) _
    refine st2 _ ?_
    refine XS.goto X2.here hx rfl (pc0 := 83) (pc' := 107) rfl (hb hby d2_83) (by decide) (by decide) ?_
    show Steps p.tables e below (T2.setTop (mkF m 107 #[.val (.ref a_LT_EQ)] [(.ref a_GT)])) _
    jvm_step X2.here [X2.here.top, hx, (hb hby d2_107), X2.method', Bd.returns, Value.isRef, FieldType.isReference]
    first | (intro acts; rw [hr _ acts rfl rfl rfl]) | rw [hr _ _ rfl rfl rfl]
    exact Steps.refl _
  · show QP (some (.ref a_GT)) h0 n0 _ T2.heap _
    rw [e2]
    exact ⟨rfl, N1, rfl⟩
set_option maxRecDepth 65536 in
set_option maxHeartbeats 40000000 in
theorem rm4_68 (l : Launch) (Z : State) (a0 : Array Value) (hw : ∀ d ∈ tables_1, d.before a0 Z = true) (ws : List Jvm.Cond) (a_LT_EQ : Addr) (a_IS_NULL : Addr) (a_NOT_NULL : Addr) (h0 : Heap) (n0 : Nat) (Z0 : n0 ≤ h0.size) (f1 : S_2 Z h0 (.ref a_IS_NULL)) (f2 : a_IS_NULL ≠ a_LT_EQ) (f3 : S_3 Z h0 (.ref a_NOT_NULL)) (f4 : a_NOT_NULL ≠ a_LT_EQ) :
    MetFree l M_4 (head1 (Jvm.Cond.code M_4 prog_13_method_5_code 1 (some .boolean) :: ws) R_0_0_0_0) (fun a U => a = #[(.ref a_LT_EQ)] ∧ Z.Warmed39 U.vm ∧ U.heap = h0) (fun _ _ _ _ _ => True) (fun _ U o U' => ∃ v L, o = .returned v ∧ QP (some (.int 1)) h0 n0 v U'.heap L ∧ FrameEnd U o U' L R_0_0_0_0.cells R_0_0_0_0.slots) := by
  refine MetFree.of_bodySF (plainFor_of_name pn_com_example_floe_floe_Expression_Operation) hisR ?_
  intro p e s m args below meth c s₁ Bd hml0 hP hK
  obtain ⟨rfl, hZ, hh⟩ := hP
  have hx := Bd.exec
  have hby := Bd.bytes
  have hml : c.maxLocals = 1 := hml0
  have hown : s.vm.findClass "com/example/floe/floe/Expression$Operation" = some m.cls := findClass_of_methodNamed Bd.named
  have hnm := (name_of_methodNamed Bd.named Bd.method).1
  have X0 : Stand p l e R_0_0_0_0 s m #[(.ref a_LT_EQ)] below meth c s₁ [] 0 0 := Stand.of_body Bd
  have e0 : s₁.heap = h0 := by rw [← hh, Bd.state]; rfl
  have N0 := Fr.nil n0
  obtain ⟨T1, X1, e1, st1⟩ := getS2 X0 hx hZ hown (host := "") (Or.inl (tw_28 hw)) Via.refl e0 f1 (g := (mkF m 1 #[.val (.ref a_LT_EQ)] [(.ref a_LT_EQ)])) rfl (hb hby d4_1)
  obtain ⟨T2, X2, e2, st2⟩ := getS2 X1 hx hZ hown (host := "") (Or.inl (tw_30 hw)) Via.refl e1 f3 (g := (mkF m 8 #[.val (.ref a_LT_EQ)] [(.ref a_LT_EQ)])) rfl (hb hby d4_8)
  obtain ⟨fs, hr, hrun, hended, hW, hsame⟩ := X2.leave (v := (some (.int 1))) (fun h => by rw [Bd.returns] at h; cases h)
  refine ⟨_, _, castTop (ef4_R m a_LT_EQ) ?_, hrun, hended, _, _, rfl, ?_, ⟨_, rfl⟩, hW, hsame.mono (by decide) (by decide)⟩
  · show Steps p.tables e below (s₁.setTop (mkF m 0 #[.val (.ref a_LT_EQ)] [])) _
    refine XS.aloadN X0.here hx rfl (hb hby d4_0) rfl rfl ?_
    show Steps p.tables e below (s₁.setTop (mkF m 1 #[.val (.ref a_LT_EQ)] [(.ref a_LT_EQ)])) _
    refine st1 _ ?_
    show Steps p.tables e below (T1.setTop (mkF m 4 #[.val (.ref a_LT_EQ)] [(.ref a_IS_NULL), (.ref a_LT_EQ)])) _
    refine Jvm.RoadKit.acmp (g := (mkF m 4 #[.val (.ref a_LT_EQ)] [(.ref a_IS_NULL), (.ref a_LT_EQ)])) X1 hx rfl rfl rfl (pc0 := 4) (pc' := 7) (same := false) rfl (hb hby d4_4) rfl (decide_eq_false fun q => (Ne.symm f2) (Value.ref.inj q)) (by decide) (by decide) ?_
    refine XS.aloadN X1.here hx rfl (hb hby d4_7) rfl rfl ?_
    show Steps p.tables e below (T1.setTop (mkF m 8 #[.val (.ref a_LT_EQ)] [(.ref a_LT_EQ)])) _
    refine st2 _ ?_
    show Steps p.tables e below (T2.setTop (mkF m 11 #[.val (.ref a_LT_EQ)] [(.ref a_NOT_NULL), (.ref a_LT_EQ)])) _
    refine Jvm.RoadKit.acmp (g := (mkF m 11 #[.val (.ref a_LT_EQ)] [(.ref a_NOT_NULL), (.ref a_LT_EQ)])) X2 hx rfl rfl rfl (pc0 := 11) (pc' := 14) (same := false) rfl (hb hby d4_11) rfl (decide_eq_false fun q => (Ne.symm f4) (Value.ref.inj q)) (by decide) (by decide) ?_
    refine XS.iconst X2.here hx rfl (hb hby d4_14) ?_
    refine XS.goto X2.here hx rfl (pc0 := 15) (pc' := 19) rfl (hb hby d4_15) (by decide) (by decide) ?_
    show Steps p.tables e below (T2.setTop (mkF m 19 #[.val (.ref a_LT_EQ)] [(.int 1)])) _
    exact retN X2 hx (t := .boolean) Bd.returns (by simp) (hb hby d4_19) hr
  · show QP (some (.int 1)) h0 n0 _ T2.heap _
    rw [e2]
    exact ⟨rfl, N0, rfl⟩
set_option maxRecDepth 65536 in
set_option maxHeartbeats 40000000 in
theorem rm4_69 (l : Launch) (Z : State) (a0 : Array Value) (hw : ∀ d ∈ tables_1, d.before a0 Z = true) (ws : List Jvm.Cond) (a_GT : Addr) (a_IS_NULL : Addr) (a_NOT_NULL : Addr) (h0 : Heap) (n0 : Nat) (Z0 : n0 ≤ h0.size) (f1 : S_2 Z h0 (.ref a_IS_NULL)) (f2 : a_IS_NULL ≠ a_GT) (f3 : S_3 Z h0 (.ref a_NOT_NULL)) (f4 : a_NOT_NULL ≠ a_GT) :
    MetFree l M_4 (head1 (Jvm.Cond.code M_4 prog_13_method_5_code 1 (some .boolean) :: ws) R_0_0_0_0) (fun a U => a = #[(.ref a_GT)] ∧ Z.Warmed39 U.vm ∧ U.heap = h0) (fun _ _ _ _ _ => True) (fun _ U o U' => ∃ v L, o = .returned v ∧ QP (some (.int 1)) h0 n0 v U'.heap L ∧ FrameEnd U o U' L R_0_0_0_0.cells R_0_0_0_0.slots) := by
  refine MetFree.of_bodySF (plainFor_of_name pn_com_example_floe_floe_Expression_Operation) hisR ?_
  intro p e s m args below meth c s₁ Bd hml0 hP hK
  obtain ⟨rfl, hZ, hh⟩ := hP
  have hx := Bd.exec
  have hby := Bd.bytes
  have hml : c.maxLocals = 1 := hml0
  have hown : s.vm.findClass "com/example/floe/floe/Expression$Operation" = some m.cls := findClass_of_methodNamed Bd.named
  have hnm := (name_of_methodNamed Bd.named Bd.method).1
  have X0 : Stand p l e R_0_0_0_0 s m #[(.ref a_GT)] below meth c s₁ [] 0 0 := Stand.of_body Bd
  have e0 : s₁.heap = h0 := by rw [← hh, Bd.state]; rfl
  have N0 := Fr.nil n0
  obtain ⟨T1, X1, e1, st1⟩ := getS2 X0 hx hZ hown (host := "") (Or.inl (tw_28 hw)) Via.refl e0 f1 (g := (mkF m 1 #[.val (.ref a_GT)] [(.ref a_GT)])) rfl (hb hby d4_1)
  obtain ⟨T2, X2, e2, st2⟩ := getS2 X1 hx hZ hown (host := "") (Or.inl (tw_30 hw)) Via.refl e1 f3 (g := (mkF m 8 #[.val (.ref a_GT)] [(.ref a_GT)])) rfl (hb hby d4_8)
  obtain ⟨fs, hr, hrun, hended, hW, hsame⟩ := X2.leave (v := (some (.int 1))) (fun h => by rw [Bd.returns] at h; cases h)
  refine ⟨_, _, castTop (ef4_R m a_GT) ?_, hrun, hended, _, _, rfl, ?_, ⟨_, rfl⟩, hW, hsame.mono (by decide) (by decide)⟩
  · show Steps p.tables e below (s₁.setTop (mkF m 0 #[.val (.ref a_GT)] [])) _
    refine XS.aloadN X0.here hx rfl (hb hby d4_0) rfl rfl ?_
    show Steps p.tables e below (s₁.setTop (mkF m 1 #[.val (.ref a_GT)] [(.ref a_GT)])) _
    refine st1 _ ?_
    show Steps p.tables e below (T1.setTop (mkF m 4 #[.val (.ref a_GT)] [(.ref a_IS_NULL), (.ref a_GT)])) _
    refine Jvm.RoadKit.acmp (g := (mkF m 4 #[.val (.ref a_GT)] [(.ref a_IS_NULL), (.ref a_GT)])) X1 hx rfl rfl rfl (pc0 := 4) (pc' := 7) (same := false) rfl (hb hby d4_4) rfl (decide_eq_false fun q => (Ne.symm f2) (Value.ref.inj q)) (by decide) (by decide) ?_
    refine XS.aloadN X1.here hx rfl (hb hby d4_7) rfl rfl ?_
    show Steps p.tables e below (T1.setTop (mkF m 8 #[.val (.ref a_GT)] [(.ref a_GT)])) _
    refine st2 _ ?_
    show Steps p.tables e below (T2.setTop (mkF m 11 #[.val (.ref a_GT)] [(.ref a_NOT_NULL), (.ref a_GT)])) _
    refine Jvm.RoadKit.acmp (g := (mkF m 11 #[.val (.ref a_GT)] [(.ref a_NOT_NULL), (.ref a_GT)])) X2 hx rfl rfl rfl (pc0 := 11) (pc' := 14) (same := false) rfl (hb hby d4_11) rfl (decide_eq_false fun q => (Ne.symm f4) (Value.ref.inj q)) (by decide) (by decide) ?_
    refine XS.iconst X2.here hx rfl (hb hby d4_14) ?_
    refine XS.goto X2.here hx rfl (pc0 := 15) (pc' := 19) rfl (hb hby d4_15) (by decide) (by decide) ?_
    show Steps p.tables e below (T2.setTop (mkF m 19 #[.val (.ref a_GT)] [(.int 1)])) _
    exact retN X2 hx (t := .boolean) Bd.returns (by simp) (hb hby d4_19) hr
  · show QP (some (.int 1)) h0 n0 _ T2.heap _
    rw [e2]
    exact ⟨rfl, N0, rfl⟩
theorem d5_113 : decode method_3_code 113 = .ok (.lload_n 2, 1) := by decide +kernel
theorem d5_114 : decode method_3_code 114 = .ok (.lload 4, 2) := by decide +kernel
theorem d5_116 : decode method_3_code 116 = .ok (.lcmp, 1) := by decide +kernel
theorem d5_117 : decode method_3_code 117 = .ok (.ifCond .le 7, 3) := by decide +kernel
theorem d5_124 : decode method_3_code 124 = .ok (.iconst 0, 1) := by decide +kernel
theorem d5_125 : decode method_3_code 125 = .ok (.ireturn, 1) := by decide +kernel
set_option maxRecDepth 65536 in
set_option maxHeartbeats 40000000 in
theorem rm5_70 (l : Launch) (Z : State) (a0 : Array Value) (hw : ∀ d ∈ tables_1, d.before a0 Z = true) (ws : List Jvm.Cond) (a_GT : Addr) (p2 : Int64) (p3 : Int64) (a_IS_NULL : Addr) (a_NOT_NULL : Addr) (a_EQ : Addr) (a_NOT_EQ : Addr) (a_LT : Addr) (a_LT_EQ : Addr) (h0 : Heap) (n0 : Nat) (Z0 : n0 ≤ h0.size) (f1 : S_2 Z h0 (.ref a_IS_NULL)) (f2 : a_GT ≠ a_IS_NULL) (f3 : S_3 Z h0 (.ref a_NOT_NULL)) (f4 : a_GT ≠ a_NOT_NULL) (f5 : S_0 Z h0 (.ref a_EQ)) (f6 : a_EQ ≠ a_GT) (f7 : S_1 Z h0 (.ref a_NOT_EQ)) (f8 : a_NOT_EQ ≠ a_GT) (f9 : S_4 Z h0 (.ref a_LT)) (f10 : a_LT ≠ a_GT) (f11 : S_6 Z h0 (.ref a_LT_EQ)) (f12 : a_LT_EQ ≠ a_GT) (f13 : S_7 Z h0 (.ref a_GT)) (f14 : (lcmpW p2 p3) = (-1 : Int32)) :
    MetFree l M_5 (head1 (Jvm.Cond.code M_5 method_3_code 6 (some .boolean) :: ws) R_0_0_0_0) (fun a U => a = #[(.ref a_GT), (.int 0), (.long p2), (.long p3)] ∧ Z.Warmed39 U.vm ∧ U.heap = h0) (fun _ _ _ _ _ => True) (fun _ U o U' => ∃ v L, o = .returned v ∧ QP (some (.int 0)) h0 n0 v U'.heap L ∧ FrameEnd U o U' L R_0_0_0_0.cells R_0_0_0_0.slots) := by
  refine MetFree.of_bodySF (plainFor_of_name pn_com_example_floe_floe_OperationNegatePinLaw) hisR ?_
  intro p e s m args below meth c s₁ Bd hml0 hP hK
  obtain ⟨rfl, hZ, hh⟩ := hP
  have hx := Bd.exec
  have hby := Bd.bytes
  have hml : c.maxLocals = 6 := hml0
  have hown : s.vm.findClass "com/example/floe/floe/OperationNegatePinLaw" = some m.cls := findClass_of_methodNamed Bd.named
  have hnm := (name_of_methodNamed Bd.named Bd.method).1
  have X0 : Stand p l e R_0_0_0_0 s m #[(.ref a_GT), (.int 0), (.long p2), (.long p3)] below meth c s₁ [] 0 0 := Stand.of_body Bd
  have e0 : s₁.heap = h0 := by rw [← hh, Bd.state]; rfl
  have N0 := Fr.nil n0
  obtain ⟨T1, X1, e1, st1⟩ := getS2 X0 hx hZ hown (host := "") (Or.inl (tw_35 hw)) Via.refl e0 f1 (g := (mkF m 1 #[.val (.ref a_GT), .val (.int 0), .val (.long p2), .second, .val (.long p3), .second] [(.ref a_GT)])) rfl (hb hby d5_1)
  obtain ⟨T2, X2, e2, st2⟩ := getS2 X1 hx hZ hown (host := "") (Or.inl (tw_36 hw)) Via.refl e1 f3 (g := (mkF m 10 #[.val (.ref a_GT), .val (.int 0), .val (.long p2), .second, .val (.long p3), .second] [(.ref a_GT)])) rfl (hb hby d5_10)
  obtain ⟨T3, X3, e3, st3⟩ := getS2 X2 hx hZ hown (host := "") (Or.inl (tw_4 hw)) Via.refl e2 f5 (g := (mkF m 27 #[.val (.ref a_GT), .val (.int 0), .val (.long p2), .second, .val (.long p3), .second] [(.ref a_GT)])) rfl (hb hby d5_27)
  obtain ⟨T4, X4, e4, st4⟩ := getS2 X3 hx hZ hown (host := "") (Or.inl (tw_37 hw)) Via.refl e3 f7 (g := (mkF m 47 #[.val (.ref a_GT), .val (.int 0), .val (.long p2), .second, .val (.long p3), .second] [(.ref a_GT)])) rfl (hb hby d5_47)
  obtain ⟨T5, X5, e5, st5⟩ := getS2 X4 hx hZ hown (host := "") (Or.inl (tw_38 hw)) Via.refl e4 f9 (g := (mkF m 67 #[.val (.ref a_GT), .val (.int 0), .val (.long p2), .second, .val (.long p3), .second] [(.ref a_GT)])) rfl (hb hby d5_67)
  obtain ⟨T6, X6, e6, st6⟩ := getS2 X5 hx hZ hown (host := "") (Or.inl (tw_42 hw)) Via.refl e5 f11 (g := (mkF m 87 #[.val (.ref a_GT), .val (.int 0), .val (.long p2), .second, .val (.long p3), .second] [(.ref a_GT)])) rfl (hb hby d5_87)
  obtain ⟨T7, X7, e7, st7⟩ := getS2 X6 hx hZ hown (host := "") (Or.inl (tw_44 hw)) Via.refl e6 f13 (g := (mkF m 107 #[.val (.ref a_GT), .val (.int 0), .val (.long p2), .second, .val (.long p3), .second] [(.ref a_GT)])) rfl (hb hby d5_107)
  obtain ⟨fs, hr, hrun, hended, hW, hsame⟩ := X7.leave (v := (some (.int 0))) (fun h => by rw [Bd.returns] at h; cases h)
  refine ⟨_, _, castTop (ef5_RIJJ m a_GT (0 : Int32) p2 p3) ?_, hrun, hended, _, _, rfl, ?_, ⟨_, rfl⟩, hW, hsame.mono (by decide) (by decide)⟩
  · show Steps p.tables e below (s₁.setTop (mkF m 0 #[.val (.ref a_GT), .val (.int 0), .val (.long p2), .second, .val (.long p3), .second] [])) _
    refine XS.aloadN X0.here hx rfl (hb hby d5_0) rfl rfl ?_
    show Steps p.tables e below (s₁.setTop (mkF m 1 #[.val (.ref a_GT), .val (.int 0), .val (.long p2), .second, .val (.long p3), .second] [(.ref a_GT)])) _
    refine st1 _ ?_
    show Steps p.tables e below (T1.setTop (mkF m 4 #[.val (.ref a_GT), .val (.int 0), .val (.long p2), .second, .val (.long p3), .second] [(.ref a_IS_NULL), (.ref a_GT)])) _
    refine Jvm.RoadKit.acmp (g := (mkF m 4 #[.val (.ref a_GT), .val (.int 0), .val (.long p2), .second, .val (.long p3), .second] [(.ref a_IS_NULL), (.ref a_GT)])) X1 hx rfl rfl rfl (pc0 := 4) (pc' := 9) (same := false) rfl (hb hby d5_4) rfl (decide_eq_false fun q => f2 (Value.ref.inj q)) (by decide) (by decide) ?_
    refine XS.aloadN X1.here hx rfl (hb hby d5_9) rfl rfl ?_
    show Steps p.tables e below (T1.setTop (mkF m 10 #[.val (.ref a_GT), .val (.int 0), .val (.long p2), .second, .val (.long p3), .second] [(.ref a_GT)])) _
    refine st2 _ ?_
    show Steps p.tables e below (T2.setTop (mkF m 13 #[.val (.ref a_GT), .val (.int 0), .val (.long p2), .second, .val (.long p3), .second] [(.ref a_NOT_NULL), (.ref a_GT)])) _
    refine Jvm.RoadKit.acmp (g := (mkF m 13 #[.val (.ref a_GT), .val (.int 0), .val (.long p2), .second, .val (.long p3), .second] [(.ref a_NOT_NULL), (.ref a_GT)])) X2 hx rfl rfl rfl (pc0 := 13) (pc' := 26) (same := false) rfl (hb hby d5_13) rfl (decide_eq_false fun q => f4 (Value.ref.inj q)) (by decide) (by decide) ?_
    refine XS.aloadN X2.here hx rfl (hb hby d5_26) rfl rfl ?_
    show Steps p.tables e below (T2.setTop (mkF m 27 #[.val (.ref a_GT), .val (.int 0), .val (.long p2), .second, .val (.long p3), .second] [(.ref a_GT)])) _
    refine st3 _ ?_
    show Steps p.tables e below (T3.setTop (mkF m 30 #[.val (.ref a_GT), .val (.int 0), .val (.long p2), .second, .val (.long p3), .second] [(.ref a_EQ), (.ref a_GT)])) _
    refine Jvm.RoadKit.acmp (g := (mkF m 30 #[.val (.ref a_GT), .val (.int 0), .val (.long p2), .second, .val (.long p3), .second] [(.ref a_EQ), (.ref a_GT)])) X3 hx rfl rfl rfl (pc0 := 30) (pc' := 46) (same := false) rfl (hb hby d5_30) rfl (decide_eq_false fun q => (Ne.symm f6) (Value.ref.inj q)) (by decide) (by decide) ?_
    refine XS.aloadN X3.here hx rfl (hb hby d5_46) rfl rfl ?_
    show Steps p.tables e below (T3.setTop (mkF m 47 #[.val (.ref a_GT), .val (.int 0), .val (.long p2), .second, .val (.long p3), .second] [(.ref a_GT)])) _
    refine st4 _ ?_
    show Steps p.tables e below (T4.setTop (mkF m 50 #[.val (.ref a_GT), .val (.int 0), .val (.long p2), .second, .val (.long p3), .second] [(.ref a_NOT_EQ), (.ref a_GT)])) _
    refine Jvm.RoadKit.acmp (g := (mkF m 50 #[.val (.ref a_GT), .val (.int 0), .val (.long p2), .second, .val (.long p3), .second] [(.ref a_NOT_EQ), (.ref a_GT)])) X4 hx rfl rfl rfl (pc0 := 50) (pc' := 66) (same := false) rfl (hb hby d5_50) rfl (decide_eq_false fun q => (Ne.symm f8) (Value.ref.inj q)) (by decide) (by decide) ?_
    refine XS.aloadN X4.here hx rfl (hb hby d5_66) rfl rfl ?_
    show Steps p.tables e below (T4.setTop (mkF m 67 #[.val (.ref a_GT), .val (.int 0), .val (.long p2), .second, .val (.long p3), .second] [(.ref a_GT)])) _
    refine st5 _ ?_
    show Steps p.tables e below (T5.setTop (mkF m 70 #[.val (.ref a_GT), .val (.int 0), .val (.long p2), .second, .val (.long p3), .second] [(.ref a_LT), (.ref a_GT)])) _
    refine Jvm.RoadKit.acmp (g := (mkF m 70 #[.val (.ref a_GT), .val (.int 0), .val (.long p2), .second, .val (.long p3), .second] [(.ref a_LT), (.ref a_GT)])) X5 hx rfl rfl rfl (pc0 := 70) (pc' := 86) (same := false) rfl (hb hby d5_70) rfl (decide_eq_false fun q => (Ne.symm f10) (Value.ref.inj q)) (by decide) (by decide) ?_
    refine XS.aloadN X5.here hx rfl (hb hby d5_86) rfl rfl ?_
    show Steps p.tables e below (T5.setTop (mkF m 87 #[.val (.ref a_GT), .val (.int 0), .val (.long p2), .second, .val (.long p3), .second] [(.ref a_GT)])) _
    refine st6 _ ?_
    show Steps p.tables e below (T6.setTop (mkF m 90 #[.val (.ref a_GT), .val (.int 0), .val (.long p2), .second, .val (.long p3), .second] [(.ref a_LT_EQ), (.ref a_GT)])) _
    refine Jvm.RoadKit.acmp (g := (mkF m 90 #[.val (.ref a_GT), .val (.int 0), .val (.long p2), .second, .val (.long p3), .second] [(.ref a_LT_EQ), (.ref a_GT)])) X6 hx rfl rfl rfl (pc0 := 90) (pc' := 106) (same := false) rfl (hb hby d5_90) rfl (decide_eq_false fun q => (Ne.symm f12) (Value.ref.inj q)) (by decide) (by decide) ?_
    refine XS.aloadN X6.here hx rfl (hb hby d5_106) rfl rfl ?_
    show Steps p.tables e below (T6.setTop (mkF m 107 #[.val (.ref a_GT), .val (.int 0), .val (.long p2), .second, .val (.long p3), .second] [(.ref a_GT)])) _
    refine st7 _ ?_
    show Steps p.tables e below (T7.setTop (mkF m 110 #[.val (.ref a_GT), .val (.int 0), .val (.long p2), .second, .val (.long p3), .second] [(.ref a_GT), (.ref a_GT)])) _
    refine Jvm.RoadKit.acmp (g := (mkF m 110 #[.val (.ref a_GT), .val (.int 0), .val (.long p2), .second, .val (.long p3), .second] [(.ref a_GT), (.ref a_GT)])) X7 hx rfl rfl rfl (pc0 := 110) (pc' := 113) (same := true) rfl (hb hby d5_110) rfl (decide_eq_true rfl) (by decide) (by decide) ?_
    refine XS.lloadN X7.here hx rfl (hb hby d5_113) rfl ?_
    refine XS.lload X7.here hx rfl (hb hby d5_114) rfl ?_
    show Steps p.tables e below (T7.setTop (mkF m 116 #[.val (.ref a_GT), .val (.int 0), .val (.long p2), .second, .val (.long p3), .second] [(.long p3), (.long p2)])) _
    refine XS.lcmp X7.here hx rfl (hb hby d5_116) rfl ?_
    show Steps p.tables e below (T7.setTop (mkF m 117 #[.val (.ref a_GT), .val (.int 0), .val (.long p2), .second, .val (.long p3), .second] [(.int (lcmpW p2 p3))])) _
    rw [f14]
    refine XS.ifYes X7.here hx rfl (pc0 := 117) (pc' := 124) rfl (hb hby d5_117) rfl (by decide) (by decide) (by decide) ?_
    refine XS.iconst X7.here hx rfl (hb hby d5_124) ?_
    show Steps p.tables e below (T7.setTop (mkF m 125 #[.val (.ref a_GT), .val (.int 0), .val (.long p2), .second, .val (.long p3), .second] [(.int 0)])) _
    exact retN X7 hx (t := .boolean) Bd.returns (by simp) (hb hby d5_125) hr
  · show QP (some (.int 0)) h0 n0 _ T7.heap _
    rw [e7]
    exact ⟨rfl, N0, rfl⟩
theorem d5_93 : decode method_3_code 93 = .ok (.lload_n 2, 1) := by decide +kernel
theorem d5_94 : decode method_3_code 94 = .ok (.lload 4, 2) := by decide +kernel
theorem d5_96 : decode method_3_code 96 = .ok (.lcmp, 1) := by decide +kernel
theorem d5_97 : decode method_3_code 97 = .ok (.ifCond .gt 7, 3) := by decide +kernel
theorem d5_100 : decode method_3_code 100 = .ok (.iconst 1, 1) := by decide +kernel
theorem d5_101 : decode method_3_code 101 = .ok (.goto 4, 3) := by decide +kernel
theorem d5_105 : decode method_3_code 105 = .ok (.ireturn, 1) := by decide +kernel
set_option maxRecDepth 65536 in
set_option maxHeartbeats 40000000 in
theorem rm5_71 (l : Launch) (Z : State) (a0 : Array Value) (hw : ∀ d ∈ tables_1, d.before a0 Z = true) (ws : List Jvm.Cond) (a_LT_EQ : Addr) (p2 : Int64) (p3 : Int64) (a_IS_NULL : Addr) (a_NOT_NULL : Addr) (a_EQ : Addr) (a_NOT_EQ : Addr) (a_LT : Addr) (h0 : Heap) (n0 : Nat) (Z0 : n0 ≤ h0.size) (f1 : S_2 Z h0 (.ref a_IS_NULL)) (f2 : a_LT_EQ ≠ a_IS_NULL) (f3 : S_3 Z h0 (.ref a_NOT_NULL)) (f4 : a_LT_EQ ≠ a_NOT_NULL) (f5 : S_0 Z h0 (.ref a_EQ)) (f6 : a_EQ ≠ a_LT_EQ) (f7 : S_1 Z h0 (.ref a_NOT_EQ)) (f8 : a_NOT_EQ ≠ a_LT_EQ) (f9 : S_4 Z h0 (.ref a_LT)) (f10 : a_LT ≠ a_LT_EQ) (f11 : S_6 Z h0 (.ref a_LT_EQ)) (f12 : (lcmpW p2 p3) = (-1 : Int32)) :
    MetFree l M_5 (head1 (Jvm.Cond.code M_5 method_3_code 6 (some .boolean) :: ws) R_0_0_0_0) (fun a U => a = #[(.ref a_LT_EQ), (.int 0), (.long p2), (.long p3)] ∧ Z.Warmed39 U.vm ∧ U.heap = h0) (fun _ _ _ _ _ => True) (fun _ U o U' => ∃ v L, o = .returned v ∧ QP (some (.int 1)) h0 n0 v U'.heap L ∧ FrameEnd U o U' L R_0_0_0_0.cells R_0_0_0_0.slots) := by
  refine MetFree.of_bodySF (plainFor_of_name pn_com_example_floe_floe_OperationNegatePinLaw) hisR ?_
  intro p e s m args below meth c s₁ Bd hml0 hP hK
  obtain ⟨rfl, hZ, hh⟩ := hP
  have hx := Bd.exec
  have hby := Bd.bytes
  have hml : c.maxLocals = 6 := hml0
  have hown : s.vm.findClass "com/example/floe/floe/OperationNegatePinLaw" = some m.cls := findClass_of_methodNamed Bd.named
  have hnm := (name_of_methodNamed Bd.named Bd.method).1
  have X0 : Stand p l e R_0_0_0_0 s m #[(.ref a_LT_EQ), (.int 0), (.long p2), (.long p3)] below meth c s₁ [] 0 0 := Stand.of_body Bd
  have e0 : s₁.heap = h0 := by rw [← hh, Bd.state]; rfl
  have N0 := Fr.nil n0
  obtain ⟨T1, X1, e1, st1⟩ := getS2 X0 hx hZ hown (host := "") (Or.inl (tw_35 hw)) Via.refl e0 f1 (g := (mkF m 1 #[.val (.ref a_LT_EQ), .val (.int 0), .val (.long p2), .second, .val (.long p3), .second] [(.ref a_LT_EQ)])) rfl (hb hby d5_1)
  obtain ⟨T2, X2, e2, st2⟩ := getS2 X1 hx hZ hown (host := "") (Or.inl (tw_36 hw)) Via.refl e1 f3 (g := (mkF m 10 #[.val (.ref a_LT_EQ), .val (.int 0), .val (.long p2), .second, .val (.long p3), .second] [(.ref a_LT_EQ)])) rfl (hb hby d5_10)
  obtain ⟨T3, X3, e3, st3⟩ := getS2 X2 hx hZ hown (host := "") (Or.inl (tw_4 hw)) Via.refl e2 f5 (g := (mkF m 27 #[.val (.ref a_LT_EQ), .val (.int 0), .val (.long p2), .second, .val (.long p3), .second] [(.ref a_LT_EQ)])) rfl (hb hby d5_27)
  obtain ⟨T4, X4, e4, st4⟩ := getS2 X3 hx hZ hown (host := "") (Or.inl (tw_37 hw)) Via.refl e3 f7 (g := (mkF m 47 #[.val (.ref a_LT_EQ), .val (.int 0), .val (.long p2), .second, .val (.long p3), .second] [(.ref a_LT_EQ)])) rfl (hb hby d5_47)
  obtain ⟨T5, X5, e5, st5⟩ := getS2 X4 hx hZ hown (host := "") (Or.inl (tw_38 hw)) Via.refl e4 f9 (g := (mkF m 67 #[.val (.ref a_LT_EQ), .val (.int 0), .val (.long p2), .second, .val (.long p3), .second] [(.ref a_LT_EQ)])) rfl (hb hby d5_67)
  obtain ⟨T6, X6, e6, st6⟩ := getS2 X5 hx hZ hown (host := "") (Or.inl (tw_42 hw)) Via.refl e5 f11 (g := (mkF m 87 #[.val (.ref a_LT_EQ), .val (.int 0), .val (.long p2), .second, .val (.long p3), .second] [(.ref a_LT_EQ)])) rfl (hb hby d5_87)
  obtain ⟨fs, hr, hrun, hended, hW, hsame⟩ := X6.leave (v := (some (.int 1))) (fun h => by rw [Bd.returns] at h; cases h)
  refine ⟨_, _, castTop (ef5_RIJJ m a_LT_EQ (0 : Int32) p2 p3) ?_, hrun, hended, _, _, rfl, ?_, ⟨_, rfl⟩, hW, hsame.mono (by decide) (by decide)⟩
  · show Steps p.tables e below (s₁.setTop (mkF m 0 #[.val (.ref a_LT_EQ), .val (.int 0), .val (.long p2), .second, .val (.long p3), .second] [])) _
    refine XS.aloadN X0.here hx rfl (hb hby d5_0) rfl rfl ?_
    show Steps p.tables e below (s₁.setTop (mkF m 1 #[.val (.ref a_LT_EQ), .val (.int 0), .val (.long p2), .second, .val (.long p3), .second] [(.ref a_LT_EQ)])) _
    refine st1 _ ?_
    show Steps p.tables e below (T1.setTop (mkF m 4 #[.val (.ref a_LT_EQ), .val (.int 0), .val (.long p2), .second, .val (.long p3), .second] [(.ref a_IS_NULL), (.ref a_LT_EQ)])) _
    refine Jvm.RoadKit.acmp (g := (mkF m 4 #[.val (.ref a_LT_EQ), .val (.int 0), .val (.long p2), .second, .val (.long p3), .second] [(.ref a_IS_NULL), (.ref a_LT_EQ)])) X1 hx rfl rfl rfl (pc0 := 4) (pc' := 9) (same := false) rfl (hb hby d5_4) rfl (decide_eq_false fun q => f2 (Value.ref.inj q)) (by decide) (by decide) ?_
    refine XS.aloadN X1.here hx rfl (hb hby d5_9) rfl rfl ?_
    show Steps p.tables e below (T1.setTop (mkF m 10 #[.val (.ref a_LT_EQ), .val (.int 0), .val (.long p2), .second, .val (.long p3), .second] [(.ref a_LT_EQ)])) _
    refine st2 _ ?_
    show Steps p.tables e below (T2.setTop (mkF m 13 #[.val (.ref a_LT_EQ), .val (.int 0), .val (.long p2), .second, .val (.long p3), .second] [(.ref a_NOT_NULL), (.ref a_LT_EQ)])) _
    refine Jvm.RoadKit.acmp (g := (mkF m 13 #[.val (.ref a_LT_EQ), .val (.int 0), .val (.long p2), .second, .val (.long p3), .second] [(.ref a_NOT_NULL), (.ref a_LT_EQ)])) X2 hx rfl rfl rfl (pc0 := 13) (pc' := 26) (same := false) rfl (hb hby d5_13) rfl (decide_eq_false fun q => f4 (Value.ref.inj q)) (by decide) (by decide) ?_
    refine XS.aloadN X2.here hx rfl (hb hby d5_26) rfl rfl ?_
    show Steps p.tables e below (T2.setTop (mkF m 27 #[.val (.ref a_LT_EQ), .val (.int 0), .val (.long p2), .second, .val (.long p3), .second] [(.ref a_LT_EQ)])) _
    refine st3 _ ?_
    show Steps p.tables e below (T3.setTop (mkF m 30 #[.val (.ref a_LT_EQ), .val (.int 0), .val (.long p2), .second, .val (.long p3), .second] [(.ref a_EQ), (.ref a_LT_EQ)])) _
    refine Jvm.RoadKit.acmp (g := (mkF m 30 #[.val (.ref a_LT_EQ), .val (.int 0), .val (.long p2), .second, .val (.long p3), .second] [(.ref a_EQ), (.ref a_LT_EQ)])) X3 hx rfl rfl rfl (pc0 := 30) (pc' := 46) (same := false) rfl (hb hby d5_30) rfl (decide_eq_false fun q => (Ne.symm f6) (Value.ref.inj q)) (by decide) (by decide) ?_
    refine XS.aloadN X3.here hx rfl (hb hby d5_46) rfl rfl ?_
    show Steps p.tables e below (T3.setTop (mkF m 47 #[.val (.ref a_LT_EQ), .val (.int 0), .val (.long p2), .second, .val (.long p3), .second] [(.ref a_LT_EQ)])) _
    refine st4 _ ?_
    show Steps p.tables e below (T4.setTop (mkF m 50 #[.val (.ref a_LT_EQ), .val (.int 0), .val (.long p2), .second, .val (.long p3), .second] [(.ref a_NOT_EQ), (.ref a_LT_EQ)])) _
    refine Jvm.RoadKit.acmp (g := (mkF m 50 #[.val (.ref a_LT_EQ), .val (.int 0), .val (.long p2), .second, .val (.long p3), .second] [(.ref a_NOT_EQ), (.ref a_LT_EQ)])) X4 hx rfl rfl rfl (pc0 := 50) (pc' := 66) (same := false) rfl (hb hby d5_50) rfl (decide_eq_false fun q => (Ne.symm f8) (Value.ref.inj q)) (by decide) (by decide) ?_
    refine XS.aloadN X4.here hx rfl (hb hby d5_66) rfl rfl ?_
    show Steps p.tables e below (T4.setTop (mkF m 67 #[.val (.ref a_LT_EQ), .val (.int 0), .val (.long p2), .second, .val (.long p3), .second] [(.ref a_LT_EQ)])) _
    refine st5 _ ?_
    show Steps p.tables e below (T5.setTop (mkF m 70 #[.val (.ref a_LT_EQ), .val (.int 0), .val (.long p2), .second, .val (.long p3), .second] [(.ref a_LT), (.ref a_LT_EQ)])) _
    refine Jvm.RoadKit.acmp (g := (mkF m 70 #[.val (.ref a_LT_EQ), .val (.int 0), .val (.long p2), .second, .val (.long p3), .second] [(.ref a_LT), (.ref a_LT_EQ)])) X5 hx rfl rfl rfl (pc0 := 70) (pc' := 86) (same := false) rfl (hb hby d5_70) rfl (decide_eq_false fun q => (Ne.symm f10) (Value.ref.inj q)) (by decide) (by decide) ?_
    refine XS.aloadN X5.here hx rfl (hb hby d5_86) rfl rfl ?_
    show Steps p.tables e below (T5.setTop (mkF m 87 #[.val (.ref a_LT_EQ), .val (.int 0), .val (.long p2), .second, .val (.long p3), .second] [(.ref a_LT_EQ)])) _
    refine st6 _ ?_
    show Steps p.tables e below (T6.setTop (mkF m 90 #[.val (.ref a_LT_EQ), .val (.int 0), .val (.long p2), .second, .val (.long p3), .second] [(.ref a_LT_EQ), (.ref a_LT_EQ)])) _
    refine Jvm.RoadKit.acmp (g := (mkF m 90 #[.val (.ref a_LT_EQ), .val (.int 0), .val (.long p2), .second, .val (.long p3), .second] [(.ref a_LT_EQ), (.ref a_LT_EQ)])) X6 hx rfl rfl rfl (pc0 := 90) (pc' := 93) (same := true) rfl (hb hby d5_90) rfl (decide_eq_true rfl) (by decide) (by decide) ?_
    refine XS.lloadN X6.here hx rfl (hb hby d5_93) rfl ?_
    refine XS.lload X6.here hx rfl (hb hby d5_94) rfl ?_
    show Steps p.tables e below (T6.setTop (mkF m 96 #[.val (.ref a_LT_EQ), .val (.int 0), .val (.long p2), .second, .val (.long p3), .second] [(.long p3), (.long p2)])) _
    refine XS.lcmp X6.here hx rfl (hb hby d5_96) rfl ?_
    show Steps p.tables e below (T6.setTop (mkF m 97 #[.val (.ref a_LT_EQ), .val (.int 0), .val (.long p2), .second, .val (.long p3), .second] [(.int (lcmpW p2 p3))])) _
    rw [f12]
    refine XS.ifNo X6.here hx rfl (hb hby d5_97) rfl (by decide) ?_
    refine XS.iconst X6.here hx rfl (hb hby d5_100) ?_
    refine XS.goto X6.here hx rfl (pc0 := 101) (pc' := 105) rfl (hb hby d5_101) (by decide) (by decide) ?_
    show Steps p.tables e below (T6.setTop (mkF m 105 #[.val (.ref a_LT_EQ), .val (.int 0), .val (.long p2), .second, .val (.long p3), .second] [(.int 1)])) _
    exact retN X6 hx (t := .boolean) Bd.returns (by simp) (hb hby d5_105) hr
  · show QP (some (.int 1)) h0 n0 _ T6.heap _
    rw [e6]
    exact ⟨rfl, N0, rfl⟩
set_option maxRecDepth 65536 in
set_option maxHeartbeats 40000000 in
theorem rm0_72 (l : Launch) (Z : State) (a0 : Array Value) (hw : ∀ d ∈ tables_1, d.before a0 Z = true) (ws : List Jvm.Cond) (p0 : Int32) (p1 : Int32) (p2 : Int64) (p3 : Int64) (a_LT_EQ : Addr) (a_GT : Addr) (a_IS_NULL : Addr) (a_NOT_NULL : Addr) (a_EQ : Addr) (a_NOT_EQ : Addr) (a_LT : Addr) (h0 : Heap) (n0 : Nat) (Z0 : n0 ≤ h0.size) (f1 : (p0 &&& (7 : Int32)) = (3 : Int32)) (f2 : S_6 Z h0 (.ref a_LT_EQ)) (f3 : F_0 Z h0 a_LT_EQ (.int 3)) (f4 : E_0 Z h0 a_LT_EQ) (f5 : S_7 Z h0 (.ref a_GT)) (f6 : S_2 Z h0 (.ref a_IS_NULL)) (f7 : a_IS_NULL ≠ a_LT_EQ) (f8 : S_3 Z h0 (.ref a_NOT_NULL)) (f9 : a_NOT_NULL ≠ a_LT_EQ) (f10 : a_IS_NULL ≠ a_GT) (f11 : a_NOT_NULL ≠ a_GT) (f12 : E_0 Z h0 a_GT) (f13 : S_0 Z h0 (.ref a_EQ)) (f14 : a_EQ ≠ a_GT) (f15 : S_1 Z h0 (.ref a_NOT_EQ)) (f16 : a_NOT_EQ ≠ a_GT) (f17 : S_4 Z h0 (.ref a_LT)) (f18 : a_LT ≠ a_GT) (f19 : a_LT_EQ ≠ a_GT) (f20 : (lcmpW p2 p3) = (-1 : Int32)) (f21 : a_EQ ≠ a_LT_EQ) (f22 : a_NOT_EQ ≠ a_LT_EQ) (f23 : a_LT ≠ a_LT_EQ) :
    MetFree l x (head1 (Jvm.Cond.code x code maxLocals ret :: ws) room_1) (fun a U => a = #[(.int p0), (.int p1), (.long p2), (.long p3)] ∧ Z.Warmed39 U.vm ∧ U.heap = h0) (fun _ _ _ _ _ => True) (fun _ U o U' => ∃ v L, o = .returned v ∧ QT n0 v U'.heap L ∧ FrameEnd U o U' L room_1.cells room_1.slots) := by
  refine MetFree.of_bodySF (plainFor_of_name pn_com_example_floe_floe_OperationNegatePinLaw) hisR ?_
  intro p e s m args below meth c s₁ Bd hml0 hP hK
  obtain ⟨rfl, hZ, hh⟩ := hP
  have hx := Bd.exec
  have hby := Bd.bytes
  have hml : c.maxLocals = 10 := hml0
  have hown : s.vm.findClass "com/example/floe/floe/OperationNegatePinLaw" = some m.cls := findClass_of_methodNamed Bd.named
  have hnm := (name_of_methodNamed Bd.named Bd.method).1
  have X0 : Stand p l e room_1 s m #[(.int p0), (.int p1), (.long p2), (.long p3)] below meth c s₁ [] 0 0 := Stand.of_body Bd
  have e0 : s₁.heap = h0 := by rw [← hh, Bd.state]; rfl
  have N0 := Fr.nil n0
  -- pc 1: com/example/floe/floe/OperationNegatePinLaw.pick
  obtain ⟨_, _, ⟨T1, L1, k1, n1⟩, -, X1, ⟨Lc1, hQ1, l1, y1, z1⟩, st1⟩ := Jvm.LawKit.callS X0 hx (y := M_0) hown (mvT hZ (tw_0 hw)) (mvT hZ (tw_1 hw)) (mvT hZ (tw_2 hw)) (mvT hZ (tw_3 hw)) (by decide) (backOf (W := 0) (rm1_65 l Z a0 hw [] p0 a_LT_EQ h0 n0 Z0 f1 f2) hZ (tw_3 hw) (tw_2 hw) (by decide) (by decide)) (g := (mkF m 1 #[.val (.int p0), .val (.int p1), .val (.long p2), .second, .val (.long p3), .second, .unset, .unset, .unset, .unset] [(.int p0)])) rfl (by rw [hml]; rfl) (argsL := [(.int p0)]) (rest := []) (lenOf pd_0 rfl) rfl (by show 2 * 0 + _ ≤ _; exact Nat.le_of_eq rfl) (hb hby at_1) (fun _ _ => ⟨rfl, e0, (by decide : 0 + 0 ≤ _), (by decide : 0 + 0 ≤ _)⟩)
  dsimp only [Pt.U, Pt.locs, Pt.cells, Pt.slots] at X1 l1 y1 z1 st1 hQ1
  subst l1 y1 z1
  obtain ⟨rfl, Nq1, e1⟩ := hQ1
  have N1 := Fr.app N0 Nq1
  -- pc 8: com/example/floe/floe/Expression$Operation.negate
  obtain ⟨cq2, kq2, q2a, q2b, q2c⟩ := isOf hZ e1 f4
  obtain ⟨_, _, ⟨T2, L2, k2, n2⟩, -, X2, ⟨Lc2, hQ2, l2, y2, z2⟩, st2⟩ := X1.virtualBack hx (y := M_3) (z := M_3) hown (mvT hZ (tw_7 hw)) (mvT hZ (tw_8 hw)) (notFace_of_selects (args := #[]) (mvT hZ (tw_10 hw))) (mvT hZ (tw_10 hw)) (mvT hZ (tw_9 hw)) (by decide) (backOf (W := 0) (rm2_67 l Z a0 hw [] a_LT_EQ a_GT h0 n0 Z0 f3 f4 f5) hZ (tw_11 hw) (tw_5 hw) (by decide) (by decide)) q2a q2c (g := (mkF m 8 #[.val (.int p0), .val (.int p1), .val (.long p2), .second, .val (.long p3), .second, .val (.ref a_LT_EQ), .unset, .unset, .unset] [(.ref a_LT_EQ)])) rfl (by rw [hml]; rfl) (Steps.refl _) (argsL := []) (rest := []) (lenOf pd_2 rfl) rfl (by show 2 * 0 + _ ≤ _; exact Nat.le_of_eq rfl) (hb hby at_8) (fun _ _ => ⟨rfl, e1, (by decide : 0 + 0 ≤ _), (by decide : 0 + 0 ≤ _)⟩)
  dsimp only [Pt.U, Pt.locs, Pt.cells, Pt.slots] at X2 l2 y2 z2 st2 hQ2
  subst l2 y2 z2
  obtain ⟨rfl, Nq2, e2⟩ := hQ2
  have N2 := Fr.app N1 Nq2
  -- pc 22: com/example/floe/floe/Expression$Operation.compares
  obtain ⟨cq3, kq3, q3a, q3b, q3c⟩ := isOf hZ e2 f4
  obtain ⟨_, _, ⟨T3, L3, k3, n3⟩, -, X3, ⟨Lc3, hQ3, l3, y3, z3⟩, st3⟩ := X2.virtualBack hx (y := M_4) (z := M_4) hown (mvT hZ (tw_23 hw)) (mvT hZ (tw_24 hw)) (notFace_of_selects (args := #[]) (mvT hZ (tw_26 hw))) (mvT hZ (tw_26 hw)) (mvT hZ (tw_25 hw)) (by decide) (backOf (W := 0) (rm4_68 l Z a0 hw [] a_LT_EQ a_IS_NULL a_NOT_NULL h0 n0 Z0 f6 f7 f8 f9) hZ (tw_27 hw) (tw_5 hw) (by decide) (by decide)) q3a q3c (g := (mkF m 22 #[.val (.int p0), .val (.int p1), .val (.long p2), .second, .val (.long p3), .second, .val (.ref a_LT_EQ), .val (.ref a_GT), .unset, .unset] [(.ref a_LT_EQ)])) rfl (by rw [hml]; rfl) (Steps.refl _) (argsL := []) (rest := []) (lenOf pd_3 rfl) rfl (by show 2 * 0 + _ ≤ _; exact Nat.le_of_eq rfl) (hb hby at_22) (fun _ _ => ⟨rfl, e2, (by decide : 0 + 0 ≤ _), (by decide : 0 + 0 ≤ _)⟩)
  dsimp only [Pt.U, Pt.locs, Pt.cells, Pt.slots] at X3 l3 y3 z3 st3 hQ3
  subst l3 y3 z3
  obtain ⟨rfl, Nq3, e3⟩ := hQ3
  have N3 := Fr.app N2 Nq3
  -- pc 51: com/example/floe/floe/Expression$Operation.compares
  obtain ⟨cq4, kq4, q4a, q4b, q4c⟩ := isOf hZ e3 f12
  obtain ⟨_, _, ⟨T4, L4, k4, n4⟩, -, X4, ⟨Lc4, hQ4, l4, y4, z4⟩, st4⟩ := X3.virtualBack hx (y := M_4) (z := M_4) hown (mvT hZ (tw_23 hw)) (mvT hZ (tw_24 hw)) (notFace_of_selects (args := #[]) (mvT hZ (tw_26 hw))) (mvT hZ (tw_26 hw)) (mvT hZ (tw_25 hw)) (by decide) (backOf (W := 0) (rm4_69 l Z a0 hw [] a_GT a_IS_NULL a_NOT_NULL h0 n0 Z0 f6 f10 f8 f11) hZ (tw_27 hw) (tw_5 hw) (by decide) (by decide)) q4a q4c (g := (mkF m 51 #[.val (.int p0), .val (.int p1), .val (.long p2), .second, .val (.long p3), .second, .val (.ref a_LT_EQ), .val (.ref a_GT), .val (.int 1), .val (.int 0)] [(.ref a_GT)])) rfl (by rw [hml]; rfl) (Steps.refl _) (argsL := []) (rest := []) (lenOf pd_3 rfl) rfl (by show 2 * 0 + _ ≤ _; exact Nat.le_of_eq rfl) (hb hby at_51) (fun _ _ => ⟨rfl, e3, (by decide : 0 + 0 ≤ _), (by decide : 0 + 0 ≤ _)⟩)
  dsimp only [Pt.U, Pt.locs, Pt.cells, Pt.slots] at X4 l4 y4 z4 st4 hQ4
  subst l4 y4 z4
  obtain ⟨rfl, Nq4, e4⟩ := hQ4
  have N4 := Fr.app N3 Nq4
  -- pc 68: com/example/floe/floe/OperationNegatePinLaw.holds
  obtain ⟨_, _, ⟨T5, L5, k5, n5⟩, -, X5, ⟨Lc5, hQ5, l5, y5, z5⟩, st5⟩ := Jvm.LawKit.callS X4 hx (y := M_5) hown (mvT hZ (tw_32 hw)) (mvT hZ (tw_33 hw)) (mvT hZ (tw_2 hw)) (mvT hZ (tw_34 hw)) (by decide) (backOf (W := 0) (rm5_70 l Z a0 hw [] a_GT p2 p3 a_IS_NULL a_NOT_NULL a_EQ a_NOT_EQ a_LT a_LT_EQ h0 n0 Z0 f6 (Ne.symm f10) f8 (Ne.symm f11) f13 f14 f15 f16 f17 f18 f2 f19 f5 f20) hZ (tw_34 hw) (tw_2 hw) (by decide) (by decide)) (g := (mkF m 68 #[.val (.int p0), .val (.int p1), .val (.long p2), .second, .val (.long p3), .second, .val (.ref a_LT_EQ), .val (.ref a_GT), .val (.int 1), .val (.int 0)] [(.long p3), (.long p2), (.int 0), (.ref a_GT)])) rfl (by rw [hml]; rfl) (argsL := [(.ref a_GT), (.int 0), (.long p2), (.long p3)]) (rest := []) (lenOf pd_4 rfl) rfl (by show 2 * 0 + _ ≤ _; exact Nat.le_of_eq rfl) (hb hby at_68) (fun _ _ => ⟨rfl, e4, (by decide : 0 + 0 ≤ _), (by decide : 0 + 0 ≤ _)⟩)
  dsimp only [Pt.U, Pt.locs, Pt.cells, Pt.slots] at X5 l5 y5 z5 st5 hQ5
  subst l5 y5 z5
  obtain ⟨rfl, Nq5, e5⟩ := hQ5
  have N5 := Fr.app N4 Nq5
  -- pc 78: com/example/floe/floe/OperationNegatePinLaw.holds
  obtain ⟨_, _, ⟨T6, L6, k6, n6⟩, -, X6, ⟨Lc6, hQ6, l6, y6, z6⟩, st6⟩ := Jvm.LawKit.callS X5 hx (y := M_5) hown (mvT hZ (tw_32 hw)) (mvT hZ (tw_33 hw)) (mvT hZ (tw_2 hw)) (mvT hZ (tw_34 hw)) (by decide) (backOf (W := 1) (rm5_71 l Z a0 hw [] a_LT_EQ p2 p3 a_IS_NULL a_NOT_NULL a_EQ a_NOT_EQ a_LT h0 n0 Z0 f6 (Ne.symm f7) f8 (Ne.symm f9) f13 f21 f15 f22 f17 f23 f2 f20) hZ (tw_34 hw) (tw_2 hw) (by decide) (by decide)) (g := (mkF m 78 #[.val (.int p0), .val (.int p1), .val (.long p2), .second, .val (.long p3), .second, .val (.ref a_LT_EQ), .val (.ref a_GT), .val (.int 1), .val (.int 0)] [(.long p3), (.long p2), (.int 0), (.ref a_LT_EQ), (.int 0)])) rfl (by rw [hml]; rfl) (argsL := [(.ref a_LT_EQ), (.int 0), (.long p2), (.long p3)]) (rest := [(.int 0)]) (lenOf pd_4 rfl) rfl (by show 2 * 0 + _ ≤ _; exact Nat.le_of_eq rfl) (hb hby at_78) (fun _ _ => ⟨rfl, e5, (by decide : 0 + 0 ≤ _), (by decide : 0 + 0 ≤ _)⟩)
  dsimp only [Pt.U, Pt.locs, Pt.cells, Pt.slots] at X6 l6 y6 z6 st6 hQ6
  subst l6 y6 z6
  obtain ⟨rfl, Nq6, e6⟩ := hQ6
  have N6 := Fr.app N5 Nq6
  obtain ⟨fs, hr, hrun, hended, hW, hsame⟩ := X6.leave (v := (some (.int 1))) (fun h => by rw [Bd.returns] at h; cases h)
  refine ⟨_, _, castTop (ef0_IIJJ m p0 p1 p2 p3) ?_, hrun, hended, _, _, rfl, ?_, ⟨_, rfl⟩, hW, hsame.mono (by decide) (by decide)⟩
  · show Steps p.tables e below (s₁.setTop (mkF m 0 #[.val (.int p0), .val (.int p1), .val (.long p2), .second, .val (.long p3), .second, .unset, .unset, .unset, .unset] [])) _
    refine XS.iloadN X0.here hx rfl (hb hby at_0) rfl ?_
    show Steps p.tables e below (s₁.setTop (mkF m 1 #[.val (.int p0), .val (.int p1), .val (.long p2), .second, .val (.long p3), .second, .unset, .unset, .unset, .unset] [(.int p0)])) _
    refine st1 _ ?_
    refine XS.astore X1.here hx rfl (hb hby at_4) rfl rfl (l' := #[.val (.int p0), .val (.int p1), .val (.long p2), .second, .val (.long p3), .second, .val (.ref a_LT_EQ), .unset, .unset, .unset]) rfl ?_
    refine XS.aload X1.here hx rfl (hb hby at_6) rfl rfl ?_
    show Steps p.tables e below (T1.setTop (mkF m 8 #[.val (.int p0), .val (.int p1), .val (.long p2), .second, .val (.long p3), .second, .val (.ref a_LT_EQ), .unset, .unset, .unset] [(.ref a_LT_EQ)])) _
    refine st2.trans ?_
    refine XS.astore X2.here hx rfl (hb hby at_11) rfl rfl (l' := #[.val (.int p0), .val (.int p1), .val (.long p2), .second, .val (.long p3), .second, .val (.ref a_LT_EQ), .val (.ref a_GT), .unset, .unset]) rfl ?_
    refine XS.aload X2.here hx rfl (hb hby at_13) rfl rfl ?_
    refine XS.ifnonnullYes X2.here hx rfl (pc0 := 15) (pc' := 20) rfl (hb hby at_15) rfl (by decide) (by decide) ?_
    refine XS.aload X2.here hx rfl (hb hby at_20) rfl rfl ?_
    show Steps p.tables e below (T2.setTop (mkF m 22 #[.val (.int p0), .val (.int p1), .val (.long p2), .second, .val (.long p3), .second, .val (.ref a_LT_EQ), .val (.ref a_GT), .unset, .unset] [(.ref a_LT_EQ)])) _
    refine st3.trans ?_
    refine XS.istore X3.here hx rfl (hb hby at_25) rfl (l' := #[.val (.int p0), .val (.int p1), .val (.long p2), .second, .val (.long p3), .second, .val (.ref a_LT_EQ), .val (.ref a_GT), .val (.int 1), .unset]) rfl ?_
    refine XS.iload X3.here hx rfl (hb hby at_27) rfl ?_
    refine XS.ifNo X3.here hx rfl (hb hby at_29) rfl (by decide) ?_
    refine XS.iconst X3.here hx rfl (hb hby at_32) ?_
    show Steps p.tables e below (T3.setTop (mkF m 33 #[.val (.int p0), .val (.int p1), .val (.long p2), .second, .val (.long p3), .second, .val (.ref a_LT_EQ), .val (.ref a_GT), .val (.int 1), .unset] [(.int 0)])) _
    refine XS.goto X3.here hx rfl (pc0 := 33) (pc' := 47) rfl (hb hby at_33) (by decide) (by decide) ?_
    refine XS.istore X3.here hx rfl (hb hby at_47) rfl (l' := #[.val (.int p0), .val (.int p1), .val (.long p2), .second, .val (.long p3), .second, .val (.ref a_LT_EQ), .val (.ref a_GT), .val (.int 1), .val (.int 0)]) rfl ?_
    refine XS.aload X3.here hx rfl (hb hby at_49) rfl rfl ?_
    show Steps p.tables e below (T3.setTop (mkF m 51 #[.val (.int p0), .val (.int p1), .val (.long p2), .second, .val (.long p3), .second, .val (.ref a_LT_EQ), .val (.ref a_GT), .val (.int 1), .val (.int 0)] [(.ref a_GT)])) _
    refine st4.trans ?_
    refine XS.iload X4.here hx rfl (hb hby at_54) rfl ?_
    refine XS.icmpYes X4.here hx rfl (pc0 := 56) (pc' := 61) rfl (hb hby at_56) rfl (by decide) (by decide) (by decide) ?_
    refine XS.aload X4.here hx rfl (hb hby at_61) rfl rfl ?_
    refine XS.iload X4.here hx rfl (hb hby at_63) rfl ?_
    show Steps p.tables e below (T4.setTop (mkF m 65 #[.val (.int p0), .val (.int p1), .val (.long p2), .second, .val (.long p3), .second, .val (.ref a_LT_EQ), .val (.ref a_GT), .val (.int 1), .val (.int 0)] [(.int 0), (.ref a_GT)])) _
    refine XS.lloadN X4.here hx rfl (hb hby at_65) rfl ?_
    refine XS.lload X4.here hx rfl (hb hby at_66) rfl ?_
    show Steps p.tables e below (T4.setTop (mkF m 68 #[.val (.int p0), .val (.int p1), .val (.long p2), .second, .val (.long p3), .second, .val (.ref a_LT_EQ), .val (.ref a_GT), .val (.int 1), .val (.int 0)] [(.long p3), (.long p2), (.int 0), (.ref a_GT)])) _
    refine st5 _ ?_
    refine XS.aload X5.here hx rfl (hb hby at_71) rfl rfl ?_
    refine XS.iload X5.here hx rfl (hb hby at_73) rfl ?_
    refine XS.lloadN X5.here hx rfl (hb hby at_75) rfl ?_
    refine XS.lload X5.here hx rfl (hb hby at_76) rfl ?_
    show Steps p.tables e below (T5.setTop (mkF m 78 #[.val (.int p0), .val (.int p1), .val (.long p2), .second, .val (.long p3), .second, .val (.ref a_LT_EQ), .val (.ref a_GT), .val (.int 1), .val (.int 0)] [(.long p3), (.long p2), (.int 0), (.ref a_LT_EQ), (.int 0)])) _
    refine st6 _ ?_
    refine XS.icmpNo X6.here hx rfl (hb hby at_81) rfl (by decide) ?_
    refine XS.iconst X6.here hx rfl (hb hby at_84) ?_
    refine XS.goto X6.here hx rfl (pc0 := 85) (pc' := 89) rfl (hb hby at_85) (by decide) (by decide) ?_
    show Steps p.tables e below (T6.setTop (mkF m 89 #[.val (.int p0), .val (.int p1), .val (.long p2), .second, .val (.long p3), .second, .val (.ref a_LT_EQ), .val (.ref a_GT), .val (.int 1), .val (.int 0)] [(.int 1)])) _
    exact retN X6 hx (t := .boolean) Bd.returns (by simp) (hb hby at_89) hr
  · show QT n0 _ T6.heap _
    rw [e6]
    exact ⟨rfl, N6⟩
set_option maxRecDepth 65536 in
set_option maxHeartbeats 40000000 in
theorem rm5_73 (l : Launch) (Z : State) (a0 : Array Value) (hw : ∀ d ∈ tables_1, d.before a0 Z = true) (ws : List Jvm.Cond) (a_GT : Addr) (p2 : Int64) (p3 : Int64) (a_IS_NULL : Addr) (a_NOT_NULL : Addr) (a_EQ : Addr) (a_NOT_EQ : Addr) (a_LT : Addr) (a_LT_EQ : Addr) (h0 : Heap) (n0 : Nat) (Z0 : n0 ≤ h0.size) (f1 : S_2 Z h0 (.ref a_IS_NULL)) (f2 : a_GT ≠ a_IS_NULL) (f3 : S_3 Z h0 (.ref a_NOT_NULL)) (f4 : a_GT ≠ a_NOT_NULL) (f5 : S_0 Z h0 (.ref a_EQ)) (f6 : a_EQ ≠ a_GT) (f7 : S_1 Z h0 (.ref a_NOT_EQ)) (f8 : a_NOT_EQ ≠ a_GT) (f9 : S_4 Z h0 (.ref a_LT)) (f10 : a_LT ≠ a_GT) (f11 : S_6 Z h0 (.ref a_LT_EQ)) (f12 : a_LT_EQ ≠ a_GT) (f13 : S_7 Z h0 (.ref a_GT)) (f14 : (lcmpW p2 p3) = (0 : Int32)) :
    MetFree l M_5 (head1 (Jvm.Cond.code M_5 method_3_code 6 (some .boolean) :: ws) R_0_0_0_0) (fun a U => a = #[(.ref a_GT), (.int 0), (.long p2), (.long p3)] ∧ Z.Warmed39 U.vm ∧ U.heap = h0) (fun _ _ _ _ _ => True) (fun _ U o U' => ∃ v L, o = .returned v ∧ QP (some (.int 0)) h0 n0 v U'.heap L ∧ FrameEnd U o U' L R_0_0_0_0.cells R_0_0_0_0.slots) := by
  refine MetFree.of_bodySF (plainFor_of_name pn_com_example_floe_floe_OperationNegatePinLaw) hisR ?_
  intro p e s m args below meth c s₁ Bd hml0 hP hK
  obtain ⟨rfl, hZ, hh⟩ := hP
  have hx := Bd.exec
  have hby := Bd.bytes
  have hml : c.maxLocals = 6 := hml0
  have hown : s.vm.findClass "com/example/floe/floe/OperationNegatePinLaw" = some m.cls := findClass_of_methodNamed Bd.named
  have hnm := (name_of_methodNamed Bd.named Bd.method).1
  have X0 : Stand p l e R_0_0_0_0 s m #[(.ref a_GT), (.int 0), (.long p2), (.long p3)] below meth c s₁ [] 0 0 := Stand.of_body Bd
  have e0 : s₁.heap = h0 := by rw [← hh, Bd.state]; rfl
  have N0 := Fr.nil n0
  obtain ⟨T1, X1, e1, st1⟩ := getS2 X0 hx hZ hown (host := "") (Or.inl (tw_35 hw)) Via.refl e0 f1 (g := (mkF m 1 #[.val (.ref a_GT), .val (.int 0), .val (.long p2), .second, .val (.long p3), .second] [(.ref a_GT)])) rfl (hb hby d5_1)
  obtain ⟨T2, X2, e2, st2⟩ := getS2 X1 hx hZ hown (host := "") (Or.inl (tw_36 hw)) Via.refl e1 f3 (g := (mkF m 10 #[.val (.ref a_GT), .val (.int 0), .val (.long p2), .second, .val (.long p3), .second] [(.ref a_GT)])) rfl (hb hby d5_10)
  obtain ⟨T3, X3, e3, st3⟩ := getS2 X2 hx hZ hown (host := "") (Or.inl (tw_4 hw)) Via.refl e2 f5 (g := (mkF m 27 #[.val (.ref a_GT), .val (.int 0), .val (.long p2), .second, .val (.long p3), .second] [(.ref a_GT)])) rfl (hb hby d5_27)
  obtain ⟨T4, X4, e4, st4⟩ := getS2 X3 hx hZ hown (host := "") (Or.inl (tw_37 hw)) Via.refl e3 f7 (g := (mkF m 47 #[.val (.ref a_GT), .val (.int 0), .val (.long p2), .second, .val (.long p3), .second] [(.ref a_GT)])) rfl (hb hby d5_47)
  obtain ⟨T5, X5, e5, st5⟩ := getS2 X4 hx hZ hown (host := "") (Or.inl (tw_38 hw)) Via.refl e4 f9 (g := (mkF m 67 #[.val (.ref a_GT), .val (.int 0), .val (.long p2), .second, .val (.long p3), .second] [(.ref a_GT)])) rfl (hb hby d5_67)
  obtain ⟨T6, X6, e6, st6⟩ := getS2 X5 hx hZ hown (host := "") (Or.inl (tw_42 hw)) Via.refl e5 f11 (g := (mkF m 87 #[.val (.ref a_GT), .val (.int 0), .val (.long p2), .second, .val (.long p3), .second] [(.ref a_GT)])) rfl (hb hby d5_87)
  obtain ⟨T7, X7, e7, st7⟩ := getS2 X6 hx hZ hown (host := "") (Or.inl (tw_44 hw)) Via.refl e6 f13 (g := (mkF m 107 #[.val (.ref a_GT), .val (.int 0), .val (.long p2), .second, .val (.long p3), .second] [(.ref a_GT)])) rfl (hb hby d5_107)
  obtain ⟨fs, hr, hrun, hended, hW, hsame⟩ := X7.leave (v := (some (.int 0))) (fun h => by rw [Bd.returns] at h; cases h)
  refine ⟨_, _, castTop (ef5_RIJJ m a_GT (0 : Int32) p2 p3) ?_, hrun, hended, _, _, rfl, ?_, ⟨_, rfl⟩, hW, hsame.mono (by decide) (by decide)⟩
  · show Steps p.tables e below (s₁.setTop (mkF m 0 #[.val (.ref a_GT), .val (.int 0), .val (.long p2), .second, .val (.long p3), .second] [])) _
    refine XS.aloadN X0.here hx rfl (hb hby d5_0) rfl rfl ?_
    show Steps p.tables e below (s₁.setTop (mkF m 1 #[.val (.ref a_GT), .val (.int 0), .val (.long p2), .second, .val (.long p3), .second] [(.ref a_GT)])) _
    refine st1 _ ?_
    show Steps p.tables e below (T1.setTop (mkF m 4 #[.val (.ref a_GT), .val (.int 0), .val (.long p2), .second, .val (.long p3), .second] [(.ref a_IS_NULL), (.ref a_GT)])) _
    refine Jvm.RoadKit.acmp (g := (mkF m 4 #[.val (.ref a_GT), .val (.int 0), .val (.long p2), .second, .val (.long p3), .second] [(.ref a_IS_NULL), (.ref a_GT)])) X1 hx rfl rfl rfl (pc0 := 4) (pc' := 9) (same := false) rfl (hb hby d5_4) rfl (decide_eq_false fun q => f2 (Value.ref.inj q)) (by decide) (by decide) ?_
    refine XS.aloadN X1.here hx rfl (hb hby d5_9) rfl rfl ?_
    show Steps p.tables e below (T1.setTop (mkF m 10 #[.val (.ref a_GT), .val (.int 0), .val (.long p2), .second, .val (.long p3), .second] [(.ref a_GT)])) _
    refine st2 _ ?_
    show Steps p.tables e below (T2.setTop (mkF m 13 #[.val (.ref a_GT), .val (.int 0), .val (.long p2), .second, .val (.long p3), .second] [(.ref a_NOT_NULL), (.ref a_GT)])) _
    refine Jvm.RoadKit.acmp (g := (mkF m 13 #[.val (.ref a_GT), .val (.int 0), .val (.long p2), .second, .val (.long p3), .second] [(.ref a_NOT_NULL), (.ref a_GT)])) X2 hx rfl rfl rfl (pc0 := 13) (pc' := 26) (same := false) rfl (hb hby d5_13) rfl (decide_eq_false fun q => f4 (Value.ref.inj q)) (by decide) (by decide) ?_
    refine XS.aloadN X2.here hx rfl (hb hby d5_26) rfl rfl ?_
    show Steps p.tables e below (T2.setTop (mkF m 27 #[.val (.ref a_GT), .val (.int 0), .val (.long p2), .second, .val (.long p3), .second] [(.ref a_GT)])) _
    refine st3 _ ?_
    show Steps p.tables e below (T3.setTop (mkF m 30 #[.val (.ref a_GT), .val (.int 0), .val (.long p2), .second, .val (.long p3), .second] [(.ref a_EQ), (.ref a_GT)])) _
    refine Jvm.RoadKit.acmp (g := (mkF m 30 #[.val (.ref a_GT), .val (.int 0), .val (.long p2), .second, .val (.long p3), .second] [(.ref a_EQ), (.ref a_GT)])) X3 hx rfl rfl rfl (pc0 := 30) (pc' := 46) (same := false) rfl (hb hby d5_30) rfl (decide_eq_false fun q => (Ne.symm f6) (Value.ref.inj q)) (by decide) (by decide) ?_
    refine XS.aloadN X3.here hx rfl (hb hby d5_46) rfl rfl ?_
    show Steps p.tables e below (T3.setTop (mkF m 47 #[.val (.ref a_GT), .val (.int 0), .val (.long p2), .second, .val (.long p3), .second] [(.ref a_GT)])) _
    refine st4 _ ?_
    show Steps p.tables e below (T4.setTop (mkF m 50 #[.val (.ref a_GT), .val (.int 0), .val (.long p2), .second, .val (.long p3), .second] [(.ref a_NOT_EQ), (.ref a_GT)])) _
    refine Jvm.RoadKit.acmp (g := (mkF m 50 #[.val (.ref a_GT), .val (.int 0), .val (.long p2), .second, .val (.long p3), .second] [(.ref a_NOT_EQ), (.ref a_GT)])) X4 hx rfl rfl rfl (pc0 := 50) (pc' := 66) (same := false) rfl (hb hby d5_50) rfl (decide_eq_false fun q => (Ne.symm f8) (Value.ref.inj q)) (by decide) (by decide) ?_
    refine XS.aloadN X4.here hx rfl (hb hby d5_66) rfl rfl ?_
    show Steps p.tables e below (T4.setTop (mkF m 67 #[.val (.ref a_GT), .val (.int 0), .val (.long p2), .second, .val (.long p3), .second] [(.ref a_GT)])) _
    refine st5 _ ?_
    show Steps p.tables e below (T5.setTop (mkF m 70 #[.val (.ref a_GT), .val (.int 0), .val (.long p2), .second, .val (.long p3), .second] [(.ref a_LT), (.ref a_GT)])) _
    refine Jvm.RoadKit.acmp (g := (mkF m 70 #[.val (.ref a_GT), .val (.int 0), .val (.long p2), .second, .val (.long p3), .second] [(.ref a_LT), (.ref a_GT)])) X5 hx rfl rfl rfl (pc0 := 70) (pc' := 86) (same := false) rfl (hb hby d5_70) rfl (decide_eq_false fun q => (Ne.symm f10) (Value.ref.inj q)) (by decide) (by decide) ?_
    refine XS.aloadN X5.here hx rfl (hb hby d5_86) rfl rfl ?_
    show Steps p.tables e below (T5.setTop (mkF m 87 #[.val (.ref a_GT), .val (.int 0), .val (.long p2), .second, .val (.long p3), .second] [(.ref a_GT)])) _
    refine st6 _ ?_
    show Steps p.tables e below (T6.setTop (mkF m 90 #[.val (.ref a_GT), .val (.int 0), .val (.long p2), .second, .val (.long p3), .second] [(.ref a_LT_EQ), (.ref a_GT)])) _
    refine Jvm.RoadKit.acmp (g := (mkF m 90 #[.val (.ref a_GT), .val (.int 0), .val (.long p2), .second, .val (.long p3), .second] [(.ref a_LT_EQ), (.ref a_GT)])) X6 hx rfl rfl rfl (pc0 := 90) (pc' := 106) (same := false) rfl (hb hby d5_90) rfl (decide_eq_false fun q => (Ne.symm f12) (Value.ref.inj q)) (by decide) (by decide) ?_
    refine XS.aloadN X6.here hx rfl (hb hby d5_106) rfl rfl ?_
    show Steps p.tables e below (T6.setTop (mkF m 107 #[.val (.ref a_GT), .val (.int 0), .val (.long p2), .second, .val (.long p3), .second] [(.ref a_GT)])) _
    refine st7 _ ?_
    show Steps p.tables e below (T7.setTop (mkF m 110 #[.val (.ref a_GT), .val (.int 0), .val (.long p2), .second, .val (.long p3), .second] [(.ref a_GT), (.ref a_GT)])) _
    refine Jvm.RoadKit.acmp (g := (mkF m 110 #[.val (.ref a_GT), .val (.int 0), .val (.long p2), .second, .val (.long p3), .second] [(.ref a_GT), (.ref a_GT)])) X7 hx rfl rfl rfl (pc0 := 110) (pc' := 113) (same := true) rfl (hb hby d5_110) rfl (decide_eq_true rfl) (by decide) (by decide) ?_
    refine XS.lloadN X7.here hx rfl (hb hby d5_113) rfl ?_
    refine XS.lload X7.here hx rfl (hb hby d5_114) rfl ?_
    show Steps p.tables e below (T7.setTop (mkF m 116 #[.val (.ref a_GT), .val (.int 0), .val (.long p2), .second, .val (.long p3), .second] [(.long p3), (.long p2)])) _
    refine XS.lcmp X7.here hx rfl (hb hby d5_116) rfl ?_
    show Steps p.tables e below (T7.setTop (mkF m 117 #[.val (.ref a_GT), .val (.int 0), .val (.long p2), .second, .val (.long p3), .second] [(.int (lcmpW p2 p3))])) _
    rw [f14]
    refine XS.ifYes X7.here hx rfl (pc0 := 117) (pc' := 124) rfl (hb hby d5_117) rfl (by decide) (by decide) (by decide) ?_
    refine XS.iconst X7.here hx rfl (hb hby d5_124) ?_
    show Steps p.tables e below (T7.setTop (mkF m 125 #[.val (.ref a_GT), .val (.int 0), .val (.long p2), .second, .val (.long p3), .second] [(.int 0)])) _
    exact retN X7 hx (t := .boolean) Bd.returns (by simp) (hb hby d5_125) hr
  · show QP (some (.int 0)) h0 n0 _ T7.heap _
    rw [e7]
    exact ⟨rfl, N0, rfl⟩
set_option maxRecDepth 65536 in
set_option maxHeartbeats 40000000 in
theorem rm5_74 (l : Launch) (Z : State) (a0 : Array Value) (hw : ∀ d ∈ tables_1, d.before a0 Z = true) (ws : List Jvm.Cond) (a_LT_EQ : Addr) (p2 : Int64) (p3 : Int64) (a_IS_NULL : Addr) (a_NOT_NULL : Addr) (a_EQ : Addr) (a_NOT_EQ : Addr) (a_LT : Addr) (h0 : Heap) (n0 : Nat) (Z0 : n0 ≤ h0.size) (f1 : S_2 Z h0 (.ref a_IS_NULL)) (f2 : a_LT_EQ ≠ a_IS_NULL) (f3 : S_3 Z h0 (.ref a_NOT_NULL)) (f4 : a_LT_EQ ≠ a_NOT_NULL) (f5 : S_0 Z h0 (.ref a_EQ)) (f6 : a_EQ ≠ a_LT_EQ) (f7 : S_1 Z h0 (.ref a_NOT_EQ)) (f8 : a_NOT_EQ ≠ a_LT_EQ) (f9 : S_4 Z h0 (.ref a_LT)) (f10 : a_LT ≠ a_LT_EQ) (f11 : S_6 Z h0 (.ref a_LT_EQ)) (f12 : (lcmpW p2 p3) = (0 : Int32)) :
    MetFree l M_5 (head1 (Jvm.Cond.code M_5 method_3_code 6 (some .boolean) :: ws) R_0_0_0_0) (fun a U => a = #[(.ref a_LT_EQ), (.int 0), (.long p2), (.long p3)] ∧ Z.Warmed39 U.vm ∧ U.heap = h0) (fun _ _ _ _ _ => True) (fun _ U o U' => ∃ v L, o = .returned v ∧ QP (some (.int 1)) h0 n0 v U'.heap L ∧ FrameEnd U o U' L R_0_0_0_0.cells R_0_0_0_0.slots) := by
  refine MetFree.of_bodySF (plainFor_of_name pn_com_example_floe_floe_OperationNegatePinLaw) hisR ?_
  intro p e s m args below meth c s₁ Bd hml0 hP hK
  obtain ⟨rfl, hZ, hh⟩ := hP
  have hx := Bd.exec
  have hby := Bd.bytes
  have hml : c.maxLocals = 6 := hml0
  have hown : s.vm.findClass "com/example/floe/floe/OperationNegatePinLaw" = some m.cls := findClass_of_methodNamed Bd.named
  have hnm := (name_of_methodNamed Bd.named Bd.method).1
  have X0 : Stand p l e R_0_0_0_0 s m #[(.ref a_LT_EQ), (.int 0), (.long p2), (.long p3)] below meth c s₁ [] 0 0 := Stand.of_body Bd
  have e0 : s₁.heap = h0 := by rw [← hh, Bd.state]; rfl
  have N0 := Fr.nil n0
  obtain ⟨T1, X1, e1, st1⟩ := getS2 X0 hx hZ hown (host := "") (Or.inl (tw_35 hw)) Via.refl e0 f1 (g := (mkF m 1 #[.val (.ref a_LT_EQ), .val (.int 0), .val (.long p2), .second, .val (.long p3), .second] [(.ref a_LT_EQ)])) rfl (hb hby d5_1)
  obtain ⟨T2, X2, e2, st2⟩ := getS2 X1 hx hZ hown (host := "") (Or.inl (tw_36 hw)) Via.refl e1 f3 (g := (mkF m 10 #[.val (.ref a_LT_EQ), .val (.int 0), .val (.long p2), .second, .val (.long p3), .second] [(.ref a_LT_EQ)])) rfl (hb hby d5_10)
  obtain ⟨T3, X3, e3, st3⟩ := getS2 X2 hx hZ hown (host := "") (Or.inl (tw_4 hw)) Via.refl e2 f5 (g := (mkF m 27 #[.val (.ref a_LT_EQ), .val (.int 0), .val (.long p2), .second, .val (.long p3), .second] [(.ref a_LT_EQ)])) rfl (hb hby d5_27)
  obtain ⟨T4, X4, e4, st4⟩ := getS2 X3 hx hZ hown (host := "") (Or.inl (tw_37 hw)) Via.refl e3 f7 (g := (mkF m 47 #[.val (.ref a_LT_EQ), .val (.int 0), .val (.long p2), .second, .val (.long p3), .second] [(.ref a_LT_EQ)])) rfl (hb hby d5_47)
  obtain ⟨T5, X5, e5, st5⟩ := getS2 X4 hx hZ hown (host := "") (Or.inl (tw_38 hw)) Via.refl e4 f9 (g := (mkF m 67 #[.val (.ref a_LT_EQ), .val (.int 0), .val (.long p2), .second, .val (.long p3), .second] [(.ref a_LT_EQ)])) rfl (hb hby d5_67)
  obtain ⟨T6, X6, e6, st6⟩ := getS2 X5 hx hZ hown (host := "") (Or.inl (tw_42 hw)) Via.refl e5 f11 (g := (mkF m 87 #[.val (.ref a_LT_EQ), .val (.int 0), .val (.long p2), .second, .val (.long p3), .second] [(.ref a_LT_EQ)])) rfl (hb hby d5_87)
  obtain ⟨fs, hr, hrun, hended, hW, hsame⟩ := X6.leave (v := (some (.int 1))) (fun h => by rw [Bd.returns] at h; cases h)
  refine ⟨_, _, castTop (ef5_RIJJ m a_LT_EQ (0 : Int32) p2 p3) ?_, hrun, hended, _, _, rfl, ?_, ⟨_, rfl⟩, hW, hsame.mono (by decide) (by decide)⟩
  · show Steps p.tables e below (s₁.setTop (mkF m 0 #[.val (.ref a_LT_EQ), .val (.int 0), .val (.long p2), .second, .val (.long p3), .second] [])) _
    refine XS.aloadN X0.here hx rfl (hb hby d5_0) rfl rfl ?_
    show Steps p.tables e below (s₁.setTop (mkF m 1 #[.val (.ref a_LT_EQ), .val (.int 0), .val (.long p2), .second, .val (.long p3), .second] [(.ref a_LT_EQ)])) _
    refine st1 _ ?_
    show Steps p.tables e below (T1.setTop (mkF m 4 #[.val (.ref a_LT_EQ), .val (.int 0), .val (.long p2), .second, .val (.long p3), .second] [(.ref a_IS_NULL), (.ref a_LT_EQ)])) _
    refine Jvm.RoadKit.acmp (g := (mkF m 4 #[.val (.ref a_LT_EQ), .val (.int 0), .val (.long p2), .second, .val (.long p3), .second] [(.ref a_IS_NULL), (.ref a_LT_EQ)])) X1 hx rfl rfl rfl (pc0 := 4) (pc' := 9) (same := false) rfl (hb hby d5_4) rfl (decide_eq_false fun q => f2 (Value.ref.inj q)) (by decide) (by decide) ?_
    refine XS.aloadN X1.here hx rfl (hb hby d5_9) rfl rfl ?_
    show Steps p.tables e below (T1.setTop (mkF m 10 #[.val (.ref a_LT_EQ), .val (.int 0), .val (.long p2), .second, .val (.long p3), .second] [(.ref a_LT_EQ)])) _
    refine st2 _ ?_
    show Steps p.tables e below (T2.setTop (mkF m 13 #[.val (.ref a_LT_EQ), .val (.int 0), .val (.long p2), .second, .val (.long p3), .second] [(.ref a_NOT_NULL), (.ref a_LT_EQ)])) _
    refine Jvm.RoadKit.acmp (g := (mkF m 13 #[.val (.ref a_LT_EQ), .val (.int 0), .val (.long p2), .second, .val (.long p3), .second] [(.ref a_NOT_NULL), (.ref a_LT_EQ)])) X2 hx rfl rfl rfl (pc0 := 13) (pc' := 26) (same := false) rfl (hb hby d5_13) rfl (decide_eq_false fun q => f4 (Value.ref.inj q)) (by decide) (by decide) ?_
    refine XS.aloadN X2.here hx rfl (hb hby d5_26) rfl rfl ?_
    show Steps p.tables e below (T2.setTop (mkF m 27 #[.val (.ref a_LT_EQ), .val (.int 0), .val (.long p2), .second, .val (.long p3), .second] [(.ref a_LT_EQ)])) _
    refine st3 _ ?_
    show Steps p.tables e below (T3.setTop (mkF m 30 #[.val (.ref a_LT_EQ), .val (.int 0), .val (.long p2), .second, .val (.long p3), .second] [(.ref a_EQ), (.ref a_LT_EQ)])) _
    refine Jvm.RoadKit.acmp (g := (mkF m 30 #[.val (.ref a_LT_EQ), .val (.int 0), .val (.long p2), .second, .val (.long p3), .second] [(.ref a_EQ), (.ref a_LT_EQ)])) X3 hx rfl rfl rfl (pc0 := 30) (pc' := 46) (same := false) rfl (hb hby d5_30) rfl (decide_eq_false fun q => (Ne.symm f6) (Value.ref.inj q)) (by decide) (by decide) ?_
    refine XS.aloadN X3.here hx rfl (hb hby d5_46) rfl rfl ?_
    show Steps p.tables e below (T3.setTop (mkF m 47 #[.val (.ref a_LT_EQ), .val (.int 0), .val (.long p2), .second, .val (.long p3), .second] [(.ref a_LT_EQ)])) _
    refine st4 _ ?_
    show Steps p.tables e below (T4.setTop (mkF m 50 #[.val (.ref a_LT_EQ), .val (.int 0), .val (.long p2), .second, .val (.long p3), .second] [(.ref a_NOT_EQ), (.ref a_LT_EQ)])) _
    refine Jvm.RoadKit.acmp (g := (mkF m 50 #[.val (.ref a_LT_EQ), .val (.int 0), .val (.long p2), .second, .val (.long p3), .second] [(.ref a_NOT_EQ), (.ref a_LT_EQ)])) X4 hx rfl rfl rfl (pc0 := 50) (pc' := 66) (same := false) rfl (hb hby d5_50) rfl (decide_eq_false fun q => (Ne.symm f8) (Value.ref.inj q)) (by decide) (by decide) ?_
    refine XS.aloadN X4.here hx rfl (hb hby d5_66) rfl rfl ?_
    show Steps p.tables e below (T4.setTop (mkF m 67 #[.val (.ref a_LT_EQ), .val (.int 0), .val (.long p2), .second, .val (.long p3), .second] [(.ref a_LT_EQ)])) _
    refine st5 _ ?_
    show Steps p.tables e below (T5.setTop (mkF m 70 #[.val (.ref a_LT_EQ), .val (.int 0), .val (.long p2), .second, .val (.long p3), .second] [(.ref a_LT), (.ref a_LT_EQ)])) _
    refine Jvm.RoadKit.acmp (g := (mkF m 70 #[.val (.ref a_LT_EQ), .val (.int 0), .val (.long p2), .second, .val (.long p3), .second] [(.ref a_LT), (.ref a_LT_EQ)])) X5 hx rfl rfl rfl (pc0 := 70) (pc' := 86) (same := false) rfl (hb hby d5_70) rfl (decide_eq_false fun q => (Ne.symm f10) (Value.ref.inj q)) (by decide) (by decide) ?_
    refine XS.aloadN X5.here hx rfl (hb hby d5_86) rfl rfl ?_
    show Steps p.tables e below (T5.setTop (mkF m 87 #[.val (.ref a_LT_EQ), .val (.int 0), .val (.long p2), .second, .val (.long p3), .second] [(.ref a_LT_EQ)])) _
    refine st6 _ ?_
    show Steps p.tables e below (T6.setTop (mkF m 90 #[.val (.ref a_LT_EQ), .val (.int 0), .val (.long p2), .second, .val (.long p3), .second] [(.ref a_LT_EQ), (.ref a_LT_EQ)])) _
    refine Jvm.RoadKit.acmp (g := (mkF m 90 #[.val (.ref a_LT_EQ), .val (.int 0), .val (.long p2), .second, .val (.long p3), .second] [(.ref a_LT_EQ), (.ref a_LT_EQ)])) X6 hx rfl rfl rfl (pc0 := 90) (pc' := 93) (same := true) rfl (hb hby d5_90) rfl (decide_eq_true rfl) (by decide) (by decide) ?_
    refine XS.lloadN X6.here hx rfl (hb hby d5_93) rfl ?_
    refine XS.lload X6.here hx rfl (hb hby d5_94) rfl ?_
    show Steps p.tables e below (T6.setTop (mkF m 96 #[.val (.ref a_LT_EQ), .val (.int 0), .val (.long p2), .second, .val (.long p3), .second] [(.long p3), (.long p2)])) _
    refine XS.lcmp X6.here hx rfl (hb hby d5_96) rfl ?_
    show Steps p.tables e below (T6.setTop (mkF m 97 #[.val (.ref a_LT_EQ), .val (.int 0), .val (.long p2), .second, .val (.long p3), .second] [(.int (lcmpW p2 p3))])) _
    rw [f12]
    refine XS.ifNo X6.here hx rfl (hb hby d5_97) rfl (by decide) ?_
    refine XS.iconst X6.here hx rfl (hb hby d5_100) ?_
    refine XS.goto X6.here hx rfl (pc0 := 101) (pc' := 105) rfl (hb hby d5_101) (by decide) (by decide) ?_
    show Steps p.tables e below (T6.setTop (mkF m 105 #[.val (.ref a_LT_EQ), .val (.int 0), .val (.long p2), .second, .val (.long p3), .second] [(.int 1)])) _
    exact retN X6 hx (t := .boolean) Bd.returns (by simp) (hb hby d5_105) hr
  · show QP (some (.int 1)) h0 n0 _ T6.heap _
    rw [e6]
    exact ⟨rfl, N0, rfl⟩
set_option maxRecDepth 65536 in
set_option maxHeartbeats 40000000 in
theorem rm0_75 (l : Launch) (Z : State) (a0 : Array Value) (hw : ∀ d ∈ tables_1, d.before a0 Z = true) (ws : List Jvm.Cond) (p0 : Int32) (p1 : Int32) (p2 : Int64) (p3 : Int64) (a_LT_EQ : Addr) (a_GT : Addr) (a_IS_NULL : Addr) (a_NOT_NULL : Addr) (a_EQ : Addr) (a_NOT_EQ : Addr) (a_LT : Addr) (h0 : Heap) (n0 : Nat) (Z0 : n0 ≤ h0.size) (f1 : (p0 &&& (7 : Int32)) = (3 : Int32)) (f2 : S_6 Z h0 (.ref a_LT_EQ)) (f3 : F_0 Z h0 a_LT_EQ (.int 3)) (f4 : E_0 Z h0 a_LT_EQ) (f5 : S_7 Z h0 (.ref a_GT)) (f6 : S_2 Z h0 (.ref a_IS_NULL)) (f7 : a_IS_NULL ≠ a_LT_EQ) (f8 : S_3 Z h0 (.ref a_NOT_NULL)) (f9 : a_NOT_NULL ≠ a_LT_EQ) (f10 : a_IS_NULL ≠ a_GT) (f11 : a_NOT_NULL ≠ a_GT) (f12 : E_0 Z h0 a_GT) (f13 : S_0 Z h0 (.ref a_EQ)) (f14 : a_EQ ≠ a_GT) (f15 : S_1 Z h0 (.ref a_NOT_EQ)) (f16 : a_NOT_EQ ≠ a_GT) (f17 : S_4 Z h0 (.ref a_LT)) (f18 : a_LT ≠ a_GT) (f19 : a_LT_EQ ≠ a_GT) (f20 : (lcmpW p2 p3) = (0 : Int32)) (f21 : a_EQ ≠ a_LT_EQ) (f22 : a_NOT_EQ ≠ a_LT_EQ) (f23 : a_LT ≠ a_LT_EQ) :
    MetFree l x (head1 (Jvm.Cond.code x code maxLocals ret :: ws) room_1) (fun a U => a = #[(.int p0), (.int p1), (.long p2), (.long p3)] ∧ Z.Warmed39 U.vm ∧ U.heap = h0) (fun _ _ _ _ _ => True) (fun _ U o U' => ∃ v L, o = .returned v ∧ QT n0 v U'.heap L ∧ FrameEnd U o U' L room_1.cells room_1.slots) := by
  refine MetFree.of_bodySF (plainFor_of_name pn_com_example_floe_floe_OperationNegatePinLaw) hisR ?_
  intro p e s m args below meth c s₁ Bd hml0 hP hK
  obtain ⟨rfl, hZ, hh⟩ := hP
  have hx := Bd.exec
  have hby := Bd.bytes
  have hml : c.maxLocals = 10 := hml0
  have hown : s.vm.findClass "com/example/floe/floe/OperationNegatePinLaw" = some m.cls := findClass_of_methodNamed Bd.named
  have hnm := (name_of_methodNamed Bd.named Bd.method).1
  have X0 : Stand p l e room_1 s m #[(.int p0), (.int p1), (.long p2), (.long p3)] below meth c s₁ [] 0 0 := Stand.of_body Bd
  have e0 : s₁.heap = h0 := by rw [← hh, Bd.state]; rfl
  have N0 := Fr.nil n0
  -- pc 1: com/example/floe/floe/OperationNegatePinLaw.pick
  obtain ⟨_, _, ⟨T1, L1, k1, n1⟩, -, X1, ⟨Lc1, hQ1, l1, y1, z1⟩, st1⟩ := Jvm.LawKit.callS X0 hx (y := M_0) hown (mvT hZ (tw_0 hw)) (mvT hZ (tw_1 hw)) (mvT hZ (tw_2 hw)) (mvT hZ (tw_3 hw)) (by decide) (backOf (W := 0) (rm1_65 l Z a0 hw [] p0 a_LT_EQ h0 n0 Z0 f1 f2) hZ (tw_3 hw) (tw_2 hw) (by decide) (by decide)) (g := (mkF m 1 #[.val (.int p0), .val (.int p1), .val (.long p2), .second, .val (.long p3), .second, .unset, .unset, .unset, .unset] [(.int p0)])) rfl (by rw [hml]; rfl) (argsL := [(.int p0)]) (rest := []) (lenOf pd_0 rfl) rfl (by show 2 * 0 + _ ≤ _; exact Nat.le_of_eq rfl) (hb hby at_1) (fun _ _ => ⟨rfl, e0, (by decide : 0 + 0 ≤ _), (by decide : 0 + 0 ≤ _)⟩)
  dsimp only [Pt.U, Pt.locs, Pt.cells, Pt.slots] at X1 l1 y1 z1 st1 hQ1
  subst l1 y1 z1
  obtain ⟨rfl, Nq1, e1⟩ := hQ1
  have N1 := Fr.app N0 Nq1
  -- pc 8: com/example/floe/floe/Expression$Operation.negate
  obtain ⟨cq2, kq2, q2a, q2b, q2c⟩ := isOf hZ e1 f4
  obtain ⟨_, _, ⟨T2, L2, k2, n2⟩, -, X2, ⟨Lc2, hQ2, l2, y2, z2⟩, st2⟩ := X1.virtualBack hx (y := M_3) (z := M_3) hown (mvT hZ (tw_7 hw)) (mvT hZ (tw_8 hw)) (notFace_of_selects (args := #[]) (mvT hZ (tw_10 hw))) (mvT hZ (tw_10 hw)) (mvT hZ (tw_9 hw)) (by decide) (backOf (W := 0) (rm2_67 l Z a0 hw [] a_LT_EQ a_GT h0 n0 Z0 f3 f4 f5) hZ (tw_11 hw) (tw_5 hw) (by decide) (by decide)) q2a q2c (g := (mkF m 8 #[.val (.int p0), .val (.int p1), .val (.long p2), .second, .val (.long p3), .second, .val (.ref a_LT_EQ), .unset, .unset, .unset] [(.ref a_LT_EQ)])) rfl (by rw [hml]; rfl) (Steps.refl _) (argsL := []) (rest := []) (lenOf pd_2 rfl) rfl (by show 2 * 0 + _ ≤ _; exact Nat.le_of_eq rfl) (hb hby at_8) (fun _ _ => ⟨rfl, e1, (by decide : 0 + 0 ≤ _), (by decide : 0 + 0 ≤ _)⟩)
  dsimp only [Pt.U, Pt.locs, Pt.cells, Pt.slots] at X2 l2 y2 z2 st2 hQ2
  subst l2 y2 z2
  obtain ⟨rfl, Nq2, e2⟩ := hQ2
  have N2 := Fr.app N1 Nq2
  -- pc 22: com/example/floe/floe/Expression$Operation.compares
  obtain ⟨cq3, kq3, q3a, q3b, q3c⟩ := isOf hZ e2 f4
  obtain ⟨_, _, ⟨T3, L3, k3, n3⟩, -, X3, ⟨Lc3, hQ3, l3, y3, z3⟩, st3⟩ := X2.virtualBack hx (y := M_4) (z := M_4) hown (mvT hZ (tw_23 hw)) (mvT hZ (tw_24 hw)) (notFace_of_selects (args := #[]) (mvT hZ (tw_26 hw))) (mvT hZ (tw_26 hw)) (mvT hZ (tw_25 hw)) (by decide) (backOf (W := 0) (rm4_68 l Z a0 hw [] a_LT_EQ a_IS_NULL a_NOT_NULL h0 n0 Z0 f6 f7 f8 f9) hZ (tw_27 hw) (tw_5 hw) (by decide) (by decide)) q3a q3c (g := (mkF m 22 #[.val (.int p0), .val (.int p1), .val (.long p2), .second, .val (.long p3), .second, .val (.ref a_LT_EQ), .val (.ref a_GT), .unset, .unset] [(.ref a_LT_EQ)])) rfl (by rw [hml]; rfl) (Steps.refl _) (argsL := []) (rest := []) (lenOf pd_3 rfl) rfl (by show 2 * 0 + _ ≤ _; exact Nat.le_of_eq rfl) (hb hby at_22) (fun _ _ => ⟨rfl, e2, (by decide : 0 + 0 ≤ _), (by decide : 0 + 0 ≤ _)⟩)
  dsimp only [Pt.U, Pt.locs, Pt.cells, Pt.slots] at X3 l3 y3 z3 st3 hQ3
  subst l3 y3 z3
  obtain ⟨rfl, Nq3, e3⟩ := hQ3
  have N3 := Fr.app N2 Nq3
  -- pc 51: com/example/floe/floe/Expression$Operation.compares
  obtain ⟨cq4, kq4, q4a, q4b, q4c⟩ := isOf hZ e3 f12
  obtain ⟨_, _, ⟨T4, L4, k4, n4⟩, -, X4, ⟨Lc4, hQ4, l4, y4, z4⟩, st4⟩ := X3.virtualBack hx (y := M_4) (z := M_4) hown (mvT hZ (tw_23 hw)) (mvT hZ (tw_24 hw)) (notFace_of_selects (args := #[]) (mvT hZ (tw_26 hw))) (mvT hZ (tw_26 hw)) (mvT hZ (tw_25 hw)) (by decide) (backOf (W := 0) (rm4_69 l Z a0 hw [] a_GT a_IS_NULL a_NOT_NULL h0 n0 Z0 f6 f10 f8 f11) hZ (tw_27 hw) (tw_5 hw) (by decide) (by decide)) q4a q4c (g := (mkF m 51 #[.val (.int p0), .val (.int p1), .val (.long p2), .second, .val (.long p3), .second, .val (.ref a_LT_EQ), .val (.ref a_GT), .val (.int 1), .val (.int 0)] [(.ref a_GT)])) rfl (by rw [hml]; rfl) (Steps.refl _) (argsL := []) (rest := []) (lenOf pd_3 rfl) rfl (by show 2 * 0 + _ ≤ _; exact Nat.le_of_eq rfl) (hb hby at_51) (fun _ _ => ⟨rfl, e3, (by decide : 0 + 0 ≤ _), (by decide : 0 + 0 ≤ _)⟩)
  dsimp only [Pt.U, Pt.locs, Pt.cells, Pt.slots] at X4 l4 y4 z4 st4 hQ4
  subst l4 y4 z4
  obtain ⟨rfl, Nq4, e4⟩ := hQ4
  have N4 := Fr.app N3 Nq4
  -- pc 68: com/example/floe/floe/OperationNegatePinLaw.holds
  obtain ⟨_, _, ⟨T5, L5, k5, n5⟩, -, X5, ⟨Lc5, hQ5, l5, y5, z5⟩, st5⟩ := Jvm.LawKit.callS X4 hx (y := M_5) hown (mvT hZ (tw_32 hw)) (mvT hZ (tw_33 hw)) (mvT hZ (tw_2 hw)) (mvT hZ (tw_34 hw)) (by decide) (backOf (W := 0) (rm5_73 l Z a0 hw [] a_GT p2 p3 a_IS_NULL a_NOT_NULL a_EQ a_NOT_EQ a_LT a_LT_EQ h0 n0 Z0 f6 (Ne.symm f10) f8 (Ne.symm f11) f13 f14 f15 f16 f17 f18 f2 f19 f5 f20) hZ (tw_34 hw) (tw_2 hw) (by decide) (by decide)) (g := (mkF m 68 #[.val (.int p0), .val (.int p1), .val (.long p2), .second, .val (.long p3), .second, .val (.ref a_LT_EQ), .val (.ref a_GT), .val (.int 1), .val (.int 0)] [(.long p3), (.long p2), (.int 0), (.ref a_GT)])) rfl (by rw [hml]; rfl) (argsL := [(.ref a_GT), (.int 0), (.long p2), (.long p3)]) (rest := []) (lenOf pd_4 rfl) rfl (by show 2 * 0 + _ ≤ _; exact Nat.le_of_eq rfl) (hb hby at_68) (fun _ _ => ⟨rfl, e4, (by decide : 0 + 0 ≤ _), (by decide : 0 + 0 ≤ _)⟩)
  dsimp only [Pt.U, Pt.locs, Pt.cells, Pt.slots] at X5 l5 y5 z5 st5 hQ5
  subst l5 y5 z5
  obtain ⟨rfl, Nq5, e5⟩ := hQ5
  have N5 := Fr.app N4 Nq5
  -- pc 78: com/example/floe/floe/OperationNegatePinLaw.holds
  obtain ⟨_, _, ⟨T6, L6, k6, n6⟩, -, X6, ⟨Lc6, hQ6, l6, y6, z6⟩, st6⟩ := Jvm.LawKit.callS X5 hx (y := M_5) hown (mvT hZ (tw_32 hw)) (mvT hZ (tw_33 hw)) (mvT hZ (tw_2 hw)) (mvT hZ (tw_34 hw)) (by decide) (backOf (W := 1) (rm5_74 l Z a0 hw [] a_LT_EQ p2 p3 a_IS_NULL a_NOT_NULL a_EQ a_NOT_EQ a_LT h0 n0 Z0 f6 (Ne.symm f7) f8 (Ne.symm f9) f13 f21 f15 f22 f17 f23 f2 f20) hZ (tw_34 hw) (tw_2 hw) (by decide) (by decide)) (g := (mkF m 78 #[.val (.int p0), .val (.int p1), .val (.long p2), .second, .val (.long p3), .second, .val (.ref a_LT_EQ), .val (.ref a_GT), .val (.int 1), .val (.int 0)] [(.long p3), (.long p2), (.int 0), (.ref a_LT_EQ), (.int 0)])) rfl (by rw [hml]; rfl) (argsL := [(.ref a_LT_EQ), (.int 0), (.long p2), (.long p3)]) (rest := [(.int 0)]) (lenOf pd_4 rfl) rfl (by show 2 * 0 + _ ≤ _; exact Nat.le_of_eq rfl) (hb hby at_78) (fun _ _ => ⟨rfl, e5, (by decide : 0 + 0 ≤ _), (by decide : 0 + 0 ≤ _)⟩)
  dsimp only [Pt.U, Pt.locs, Pt.cells, Pt.slots] at X6 l6 y6 z6 st6 hQ6
  subst l6 y6 z6
  obtain ⟨rfl, Nq6, e6⟩ := hQ6
  have N6 := Fr.app N5 Nq6
  obtain ⟨fs, hr, hrun, hended, hW, hsame⟩ := X6.leave (v := (some (.int 1))) (fun h => by rw [Bd.returns] at h; cases h)
  refine ⟨_, _, castTop (ef0_IIJJ m p0 p1 p2 p3) ?_, hrun, hended, _, _, rfl, ?_, ⟨_, rfl⟩, hW, hsame.mono (by decide) (by decide)⟩
  · show Steps p.tables e below (s₁.setTop (mkF m 0 #[.val (.int p0), .val (.int p1), .val (.long p2), .second, .val (.long p3), .second, .unset, .unset, .unset, .unset] [])) _
    refine XS.iloadN X0.here hx rfl (hb hby at_0) rfl ?_
    show Steps p.tables e below (s₁.setTop (mkF m 1 #[.val (.int p0), .val (.int p1), .val (.long p2), .second, .val (.long p3), .second, .unset, .unset, .unset, .unset] [(.int p0)])) _
    refine st1 _ ?_
    refine XS.astore X1.here hx rfl (hb hby at_4) rfl rfl (l' := #[.val (.int p0), .val (.int p1), .val (.long p2), .second, .val (.long p3), .second, .val (.ref a_LT_EQ), .unset, .unset, .unset]) rfl ?_
    refine XS.aload X1.here hx rfl (hb hby at_6) rfl rfl ?_
    show Steps p.tables e below (T1.setTop (mkF m 8 #[.val (.int p0), .val (.int p1), .val (.long p2), .second, .val (.long p3), .second, .val (.ref a_LT_EQ), .unset, .unset, .unset] [(.ref a_LT_EQ)])) _
    refine st2.trans ?_
    refine XS.astore X2.here hx rfl (hb hby at_11) rfl rfl (l' := #[.val (.int p0), .val (.int p1), .val (.long p2), .second, .val (.long p3), .second, .val (.ref a_LT_EQ), .val (.ref a_GT), .unset, .unset]) rfl ?_
    refine XS.aload X2.here hx rfl (hb hby at_13) rfl rfl ?_
    refine XS.ifnonnullYes X2.here hx rfl (pc0 := 15) (pc' := 20) rfl (hb hby at_15) rfl (by decide) (by decide) ?_
    refine XS.aload X2.here hx rfl (hb hby at_20) rfl rfl ?_
    show Steps p.tables e below (T2.setTop (mkF m 22 #[.val (.int p0), .val (.int p1), .val (.long p2), .second, .val (.long p3), .second, .val (.ref a_LT_EQ), .val (.ref a_GT), .unset, .unset] [(.ref a_LT_EQ)])) _
    refine st3.trans ?_
    refine XS.istore X3.here hx rfl (hb hby at_25) rfl (l' := #[.val (.int p0), .val (.int p1), .val (.long p2), .second, .val (.long p3), .second, .val (.ref a_LT_EQ), .val (.ref a_GT), .val (.int 1), .unset]) rfl ?_
    refine XS.iload X3.here hx rfl (hb hby at_27) rfl ?_
    refine XS.ifNo X3.here hx rfl (hb hby at_29) rfl (by decide) ?_
    refine XS.iconst X3.here hx rfl (hb hby at_32) ?_
    show Steps p.tables e below (T3.setTop (mkF m 33 #[.val (.int p0), .val (.int p1), .val (.long p2), .second, .val (.long p3), .second, .val (.ref a_LT_EQ), .val (.ref a_GT), .val (.int 1), .unset] [(.int 0)])) _
    refine XS.goto X3.here hx rfl (pc0 := 33) (pc' := 47) rfl (hb hby at_33) (by decide) (by decide) ?_
    refine XS.istore X3.here hx rfl (hb hby at_47) rfl (l' := #[.val (.int p0), .val (.int p1), .val (.long p2), .second, .val (.long p3), .second, .val (.ref a_LT_EQ), .val (.ref a_GT), .val (.int 1), .val (.int 0)]) rfl ?_
    refine XS.aload X3.here hx rfl (hb hby at_49) rfl rfl ?_
    show Steps p.tables e below (T3.setTop (mkF m 51 #[.val (.int p0), .val (.int p1), .val (.long p2), .second, .val (.long p3), .second, .val (.ref a_LT_EQ), .val (.ref a_GT), .val (.int 1), .val (.int 0)] [(.ref a_GT)])) _
    refine st4.trans ?_
    refine XS.iload X4.here hx rfl (hb hby at_54) rfl ?_
    refine XS.icmpYes X4.here hx rfl (pc0 := 56) (pc' := 61) rfl (hb hby at_56) rfl (by decide) (by decide) (by decide) ?_
    refine XS.aload X4.here hx rfl (hb hby at_61) rfl rfl ?_
    refine XS.iload X4.here hx rfl (hb hby at_63) rfl ?_
    show Steps p.tables e below (T4.setTop (mkF m 65 #[.val (.int p0), .val (.int p1), .val (.long p2), .second, .val (.long p3), .second, .val (.ref a_LT_EQ), .val (.ref a_GT), .val (.int 1), .val (.int 0)] [(.int 0), (.ref a_GT)])) _
    refine XS.lloadN X4.here hx rfl (hb hby at_65) rfl ?_
    refine XS.lload X4.here hx rfl (hb hby at_66) rfl ?_
    show Steps p.tables e below (T4.setTop (mkF m 68 #[.val (.int p0), .val (.int p1), .val (.long p2), .second, .val (.long p3), .second, .val (.ref a_LT_EQ), .val (.ref a_GT), .val (.int 1), .val (.int 0)] [(.long p3), (.long p2), (.int 0), (.ref a_GT)])) _
    refine st5 _ ?_
    refine XS.aload X5.here hx rfl (hb hby at_71) rfl rfl ?_
    refine XS.iload X5.here hx rfl (hb hby at_73) rfl ?_
    refine XS.lloadN X5.here hx rfl (hb hby at_75) rfl ?_
    refine XS.lload X5.here hx rfl (hb hby at_76) rfl ?_
    show Steps p.tables e below (T5.setTop (mkF m 78 #[.val (.int p0), .val (.int p1), .val (.long p2), .second, .val (.long p3), .second, .val (.ref a_LT_EQ), .val (.ref a_GT), .val (.int 1), .val (.int 0)] [(.long p3), (.long p2), (.int 0), (.ref a_LT_EQ), (.int 0)])) _
    refine st6 _ ?_
    refine XS.icmpNo X6.here hx rfl (hb hby at_81) rfl (by decide) ?_
    refine XS.iconst X6.here hx rfl (hb hby at_84) ?_
    refine XS.goto X6.here hx rfl (pc0 := 85) (pc' := 89) rfl (hb hby at_85) (by decide) (by decide) ?_
    show Steps p.tables e below (T6.setTop (mkF m 89 #[.val (.int p0), .val (.int p1), .val (.long p2), .second, .val (.long p3), .second, .val (.ref a_LT_EQ), .val (.ref a_GT), .val (.int 1), .val (.int 0)] [(.int 1)])) _
    exact retN X6 hx (t := .boolean) Bd.returns (by simp) (hb hby at_89) hr
  · show QT n0 _ T6.heap _
    rw [e6]
    exact ⟨rfl, N6⟩
theorem d5_120 : decode method_3_code 120 = .ok (.iconst 1, 1) := by decide +kernel
theorem d5_121 : decode method_3_code 121 = .ok (.goto 4, 3) := by decide +kernel
set_option maxRecDepth 65536 in
set_option maxHeartbeats 40000000 in
theorem rm5_76 (l : Launch) (Z : State) (a0 : Array Value) (hw : ∀ d ∈ tables_1, d.before a0 Z = true) (ws : List Jvm.Cond) (a_GT : Addr) (p2 : Int64) (p3 : Int64) (a_IS_NULL : Addr) (a_NOT_NULL : Addr) (a_EQ : Addr) (a_NOT_EQ : Addr) (a_LT : Addr) (a_LT_EQ : Addr) (h0 : Heap) (n0 : Nat) (Z0 : n0 ≤ h0.size) (f1 : S_2 Z h0 (.ref a_IS_NULL)) (f2 : a_GT ≠ a_IS_NULL) (f3 : S_3 Z h0 (.ref a_NOT_NULL)) (f4 : a_GT ≠ a_NOT_NULL) (f5 : S_0 Z h0 (.ref a_EQ)) (f6 : a_EQ ≠ a_GT) (f7 : S_1 Z h0 (.ref a_NOT_EQ)) (f8 : a_NOT_EQ ≠ a_GT) (f9 : S_4 Z h0 (.ref a_LT)) (f10 : a_LT ≠ a_GT) (f11 : S_6 Z h0 (.ref a_LT_EQ)) (f12 : a_LT_EQ ≠ a_GT) (f13 : S_7 Z h0 (.ref a_GT)) (f14 : (lcmpW p2 p3) = (1 : Int32)) :
    MetFree l M_5 (head1 (Jvm.Cond.code M_5 method_3_code 6 (some .boolean) :: ws) R_0_0_0_0) (fun a U => a = #[(.ref a_GT), (.int 0), (.long p2), (.long p3)] ∧ Z.Warmed39 U.vm ∧ U.heap = h0) (fun _ _ _ _ _ => True) (fun _ U o U' => ∃ v L, o = .returned v ∧ QP (some (.int 1)) h0 n0 v U'.heap L ∧ FrameEnd U o U' L R_0_0_0_0.cells R_0_0_0_0.slots) := by
  refine MetFree.of_bodySF (plainFor_of_name pn_com_example_floe_floe_OperationNegatePinLaw) hisR ?_
  intro p e s m args below meth c s₁ Bd hml0 hP hK
  obtain ⟨rfl, hZ, hh⟩ := hP
  have hx := Bd.exec
  have hby := Bd.bytes
  have hml : c.maxLocals = 6 := hml0
  have hown : s.vm.findClass "com/example/floe/floe/OperationNegatePinLaw" = some m.cls := findClass_of_methodNamed Bd.named
  have hnm := (name_of_methodNamed Bd.named Bd.method).1
  have X0 : Stand p l e R_0_0_0_0 s m #[(.ref a_GT), (.int 0), (.long p2), (.long p3)] below meth c s₁ [] 0 0 := Stand.of_body Bd
  have e0 : s₁.heap = h0 := by rw [← hh, Bd.state]; rfl
  have N0 := Fr.nil n0
  obtain ⟨T1, X1, e1, st1⟩ := getS2 X0 hx hZ hown (host := "") (Or.inl (tw_35 hw)) Via.refl e0 f1 (g := (mkF m 1 #[.val (.ref a_GT), .val (.int 0), .val (.long p2), .second, .val (.long p3), .second] [(.ref a_GT)])) rfl (hb hby d5_1)
  obtain ⟨T2, X2, e2, st2⟩ := getS2 X1 hx hZ hown (host := "") (Or.inl (tw_36 hw)) Via.refl e1 f3 (g := (mkF m 10 #[.val (.ref a_GT), .val (.int 0), .val (.long p2), .second, .val (.long p3), .second] [(.ref a_GT)])) rfl (hb hby d5_10)
  obtain ⟨T3, X3, e3, st3⟩ := getS2 X2 hx hZ hown (host := "") (Or.inl (tw_4 hw)) Via.refl e2 f5 (g := (mkF m 27 #[.val (.ref a_GT), .val (.int 0), .val (.long p2), .second, .val (.long p3), .second] [(.ref a_GT)])) rfl (hb hby d5_27)
  obtain ⟨T4, X4, e4, st4⟩ := getS2 X3 hx hZ hown (host := "") (Or.inl (tw_37 hw)) Via.refl e3 f7 (g := (mkF m 47 #[.val (.ref a_GT), .val (.int 0), .val (.long p2), .second, .val (.long p3), .second] [(.ref a_GT)])) rfl (hb hby d5_47)
  obtain ⟨T5, X5, e5, st5⟩ := getS2 X4 hx hZ hown (host := "") (Or.inl (tw_38 hw)) Via.refl e4 f9 (g := (mkF m 67 #[.val (.ref a_GT), .val (.int 0), .val (.long p2), .second, .val (.long p3), .second] [(.ref a_GT)])) rfl (hb hby d5_67)
  obtain ⟨T6, X6, e6, st6⟩ := getS2 X5 hx hZ hown (host := "") (Or.inl (tw_42 hw)) Via.refl e5 f11 (g := (mkF m 87 #[.val (.ref a_GT), .val (.int 0), .val (.long p2), .second, .val (.long p3), .second] [(.ref a_GT)])) rfl (hb hby d5_87)
  obtain ⟨T7, X7, e7, st7⟩ := getS2 X6 hx hZ hown (host := "") (Or.inl (tw_44 hw)) Via.refl e6 f13 (g := (mkF m 107 #[.val (.ref a_GT), .val (.int 0), .val (.long p2), .second, .val (.long p3), .second] [(.ref a_GT)])) rfl (hb hby d5_107)
  obtain ⟨fs, hr, hrun, hended, hW, hsame⟩ := X7.leave (v := (some (.int 1))) (fun h => by rw [Bd.returns] at h; cases h)
  refine ⟨_, _, castTop (ef5_RIJJ m a_GT (0 : Int32) p2 p3) ?_, hrun, hended, _, _, rfl, ?_, ⟨_, rfl⟩, hW, hsame.mono (by decide) (by decide)⟩
  · show Steps p.tables e below (s₁.setTop (mkF m 0 #[.val (.ref a_GT), .val (.int 0), .val (.long p2), .second, .val (.long p3), .second] [])) _
    refine XS.aloadN X0.here hx rfl (hb hby d5_0) rfl rfl ?_
    show Steps p.tables e below (s₁.setTop (mkF m 1 #[.val (.ref a_GT), .val (.int 0), .val (.long p2), .second, .val (.long p3), .second] [(.ref a_GT)])) _
    refine st1 _ ?_
    show Steps p.tables e below (T1.setTop (mkF m 4 #[.val (.ref a_GT), .val (.int 0), .val (.long p2), .second, .val (.long p3), .second] [(.ref a_IS_NULL), (.ref a_GT)])) _
    refine Jvm.RoadKit.acmp (g := (mkF m 4 #[.val (.ref a_GT), .val (.int 0), .val (.long p2), .second, .val (.long p3), .second] [(.ref a_IS_NULL), (.ref a_GT)])) X1 hx rfl rfl rfl (pc0 := 4) (pc' := 9) (same := false) rfl (hb hby d5_4) rfl (decide_eq_false fun q => f2 (Value.ref.inj q)) (by decide) (by decide) ?_
    refine XS.aloadN X1.here hx rfl (hb hby d5_9) rfl rfl ?_
    show Steps p.tables e below (T1.setTop (mkF m 10 #[.val (.ref a_GT), .val (.int 0), .val (.long p2), .second, .val (.long p3), .second] [(.ref a_GT)])) _
    refine st2 _ ?_
    show Steps p.tables e below (T2.setTop (mkF m 13 #[.val (.ref a_GT), .val (.int 0), .val (.long p2), .second, .val (.long p3), .second] [(.ref a_NOT_NULL), (.ref a_GT)])) _
    refine Jvm.RoadKit.acmp (g := (mkF m 13 #[.val (.ref a_GT), .val (.int 0), .val (.long p2), .second, .val (.long p3), .second] [(.ref a_NOT_NULL), (.ref a_GT)])) X2 hx rfl rfl rfl (pc0 := 13) (pc' := 26) (same := false) rfl (hb hby d5_13) rfl (decide_eq_false fun q => f4 (Value.ref.inj q)) (by decide) (by decide) ?_
    refine XS.aloadN X2.here hx rfl (hb hby d5_26) rfl rfl ?_
    show Steps p.tables e below (T2.setTop (mkF m 27 #[.val (.ref a_GT), .val (.int 0), .val (.long p2), .second, .val (.long p3), .second] [(.ref a_GT)])) _
    refine st3 _ ?_
    show Steps p.tables e below (T3.setTop (mkF m 30 #[.val (.ref a_GT), .val (.int 0), .val (.long p2), .second, .val (.long p3), .second] [(.ref a_EQ), (.ref a_GT)])) _
    refine Jvm.RoadKit.acmp (g := (mkF m 30 #[.val (.ref a_GT), .val (.int 0), .val (.long p2), .second, .val (.long p3), .second] [(.ref a_EQ), (.ref a_GT)])) X3 hx rfl rfl rfl (pc0 := 30) (pc' := 46) (same := false) rfl (hb hby d5_30) rfl (decide_eq_false fun q => (Ne.symm f6) (Value.ref.inj q)) (by decide) (by decide) ?_
    refine XS.aloadN X3.here hx rfl (hb hby d5_46) rfl rfl ?_
    show Steps p.tables e below (T3.setTop (mkF m 47 #[.val (.ref a_GT), .val (.int 0), .val (.long p2), .second, .val (.long p3), .second] [(.ref a_GT)])) _
    refine st4 _ ?_
    show Steps p.tables e below (T4.setTop (mkF m 50 #[.val (.ref a_GT), .val (.int 0), .val (.long p2), .second, .val (.long p3), .second] [(.ref a_NOT_EQ), (.ref a_GT)])) _
    refine Jvm.RoadKit.acmp (g := (mkF m 50 #[.val (.ref a_GT), .val (.int 0), .val (.long p2), .second, .val (.long p3), .second] [(.ref a_NOT_EQ), (.ref a_GT)])) X4 hx rfl rfl rfl (pc0 := 50) (pc' := 66) (same := false) rfl (hb hby d5_50) rfl (decide_eq_false fun q => (Ne.symm f8) (Value.ref.inj q)) (by decide) (by decide) ?_
    refine XS.aloadN X4.here hx rfl (hb hby d5_66) rfl rfl ?_
    show Steps p.tables e below (T4.setTop (mkF m 67 #[.val (.ref a_GT), .val (.int 0), .val (.long p2), .second, .val (.long p3), .second] [(.ref a_GT)])) _
    refine st5 _ ?_
    show Steps p.tables e below (T5.setTop (mkF m 70 #[.val (.ref a_GT), .val (.int 0), .val (.long p2), .second, .val (.long p3), .second] [(.ref a_LT), (.ref a_GT)])) _
    refine Jvm.RoadKit.acmp (g := (mkF m 70 #[.val (.ref a_GT), .val (.int 0), .val (.long p2), .second, .val (.long p3), .second] [(.ref a_LT), (.ref a_GT)])) X5 hx rfl rfl rfl (pc0 := 70) (pc' := 86) (same := false) rfl (hb hby d5_70) rfl (decide_eq_false fun q => (Ne.symm f10) (Value.ref.inj q)) (by decide) (by decide) ?_
    refine XS.aloadN X5.here hx rfl (hb hby d5_86) rfl rfl ?_
    show Steps p.tables e below (T5.setTop (mkF m 87 #[.val (.ref a_GT), .val (.int 0), .val (.long p2), .second, .val (.long p3), .second] [(.ref a_GT)])) _
    refine st6 _ ?_
    show Steps p.tables e below (T6.setTop (mkF m 90 #[.val (.ref a_GT), .val (.int 0), .val (.long p2), .second, .val (.long p3), .second] [(.ref a_LT_EQ), (.ref a_GT)])) _
    refine Jvm.RoadKit.acmp (g := (mkF m 90 #[.val (.ref a_GT), .val (.int 0), .val (.long p2), .second, .val (.long p3), .second] [(.ref a_LT_EQ), (.ref a_GT)])) X6 hx rfl rfl rfl (pc0 := 90) (pc' := 106) (same := false) rfl (hb hby d5_90) rfl (decide_eq_false fun q => (Ne.symm f12) (Value.ref.inj q)) (by decide) (by decide) ?_
    refine XS.aloadN X6.here hx rfl (hb hby d5_106) rfl rfl ?_
    show Steps p.tables e below (T6.setTop (mkF m 107 #[.val (.ref a_GT), .val (.int 0), .val (.long p2), .second, .val (.long p3), .second] [(.ref a_GT)])) _
    refine st7 _ ?_
    show Steps p.tables e below (T7.setTop (mkF m 110 #[.val (.ref a_GT), .val (.int 0), .val (.long p2), .second, .val (.long p3), .second] [(.ref a_GT), (.ref a_GT)])) _
    refine Jvm.RoadKit.acmp (g := (mkF m 110 #[.val (.ref a_GT), .val (.int 0), .val (.long p2), .second, .val (.long p3), .second] [(.ref a_GT), (.ref a_GT)])) X7 hx rfl rfl rfl (pc0 := 110) (pc' := 113) (same := true) rfl (hb hby d5_110) rfl (decide_eq_true rfl) (by decide) (by decide) ?_
    refine XS.lloadN X7.here hx rfl (hb hby d5_113) rfl ?_
    refine XS.lload X7.here hx rfl (hb hby d5_114) rfl ?_
    show Steps p.tables e below (T7.setTop (mkF m 116 #[.val (.ref a_GT), .val (.int 0), .val (.long p2), .second, .val (.long p3), .second] [(.long p3), (.long p2)])) _
    refine XS.lcmp X7.here hx rfl (hb hby d5_116) rfl ?_
    show Steps p.tables e below (T7.setTop (mkF m 117 #[.val (.ref a_GT), .val (.int 0), .val (.long p2), .second, .val (.long p3), .second] [(.int (lcmpW p2 p3))])) _
    rw [f14]
    refine XS.ifNo X7.here hx rfl (hb hby d5_117) rfl (by decide) ?_
    refine XS.iconst X7.here hx rfl (hb hby d5_120) ?_
    refine XS.goto X7.here hx rfl (pc0 := 121) (pc' := 125) rfl (hb hby d5_121) (by decide) (by decide) ?_
    show Steps p.tables e below (T7.setTop (mkF m 125 #[.val (.ref a_GT), .val (.int 0), .val (.long p2), .second, .val (.long p3), .second] [(.int 1)])) _
    exact retN X7 hx (t := .boolean) Bd.returns (by simp) (hb hby d5_125) hr
  · show QP (some (.int 1)) h0 n0 _ T7.heap _
    rw [e7]
    exact ⟨rfl, N0, rfl⟩
theorem d5_104 : decode method_3_code 104 = .ok (.iconst 0, 1) := by decide +kernel
set_option maxRecDepth 65536 in
set_option maxHeartbeats 40000000 in
theorem rm5_77 (l : Launch) (Z : State) (a0 : Array Value) (hw : ∀ d ∈ tables_1, d.before a0 Z = true) (ws : List Jvm.Cond) (a_LT_EQ : Addr) (p2 : Int64) (p3 : Int64) (a_IS_NULL : Addr) (a_NOT_NULL : Addr) (a_EQ : Addr) (a_NOT_EQ : Addr) (a_LT : Addr) (h0 : Heap) (n0 : Nat) (Z0 : n0 ≤ h0.size) (f1 : S_2 Z h0 (.ref a_IS_NULL)) (f2 : a_LT_EQ ≠ a_IS_NULL) (f3 : S_3 Z h0 (.ref a_NOT_NULL)) (f4 : a_LT_EQ ≠ a_NOT_NULL) (f5 : S_0 Z h0 (.ref a_EQ)) (f6 : a_EQ ≠ a_LT_EQ) (f7 : S_1 Z h0 (.ref a_NOT_EQ)) (f8 : a_NOT_EQ ≠ a_LT_EQ) (f9 : S_4 Z h0 (.ref a_LT)) (f10 : a_LT ≠ a_LT_EQ) (f11 : S_6 Z h0 (.ref a_LT_EQ)) (f12 : (lcmpW p2 p3) = (1 : Int32)) :
    MetFree l M_5 (head1 (Jvm.Cond.code M_5 method_3_code 6 (some .boolean) :: ws) R_0_0_0_0) (fun a U => a = #[(.ref a_LT_EQ), (.int 0), (.long p2), (.long p3)] ∧ Z.Warmed39 U.vm ∧ U.heap = h0) (fun _ _ _ _ _ => True) (fun _ U o U' => ∃ v L, o = .returned v ∧ QP (some (.int 0)) h0 n0 v U'.heap L ∧ FrameEnd U o U' L R_0_0_0_0.cells R_0_0_0_0.slots) := by
  refine MetFree.of_bodySF (plainFor_of_name pn_com_example_floe_floe_OperationNegatePinLaw) hisR ?_
  intro p e s m args below meth c s₁ Bd hml0 hP hK
  obtain ⟨rfl, hZ, hh⟩ := hP
  have hx := Bd.exec
  have hby := Bd.bytes
  have hml : c.maxLocals = 6 := hml0
  have hown : s.vm.findClass "com/example/floe/floe/OperationNegatePinLaw" = some m.cls := findClass_of_methodNamed Bd.named
  have hnm := (name_of_methodNamed Bd.named Bd.method).1
  have X0 : Stand p l e R_0_0_0_0 s m #[(.ref a_LT_EQ), (.int 0), (.long p2), (.long p3)] below meth c s₁ [] 0 0 := Stand.of_body Bd
  have e0 : s₁.heap = h0 := by rw [← hh, Bd.state]; rfl
  have N0 := Fr.nil n0
  obtain ⟨T1, X1, e1, st1⟩ := getS2 X0 hx hZ hown (host := "") (Or.inl (tw_35 hw)) Via.refl e0 f1 (g := (mkF m 1 #[.val (.ref a_LT_EQ), .val (.int 0), .val (.long p2), .second, .val (.long p3), .second] [(.ref a_LT_EQ)])) rfl (hb hby d5_1)
  obtain ⟨T2, X2, e2, st2⟩ := getS2 X1 hx hZ hown (host := "") (Or.inl (tw_36 hw)) Via.refl e1 f3 (g := (mkF m 10 #[.val (.ref a_LT_EQ), .val (.int 0), .val (.long p2), .second, .val (.long p3), .second] [(.ref a_LT_EQ)])) rfl (hb hby d5_10)
  obtain ⟨T3, X3, e3, st3⟩ := getS2 X2 hx hZ hown (host := "") (Or.inl (tw_4 hw)) Via.refl e2 f5 (g := (mkF m 27 #[.val (.ref a_LT_EQ), .val (.int 0), .val (.long p2), .second, .val (.long p3), .second] [(.ref a_LT_EQ)])) rfl (hb hby d5_27)
  obtain ⟨T4, X4, e4, st4⟩ := getS2 X3 hx hZ hown (host := "") (Or.inl (tw_37 hw)) Via.refl e3 f7 (g := (mkF m 47 #[.val (.ref a_LT_EQ), .val (.int 0), .val (.long p2), .second, .val (.long p3), .second] [(.ref a_LT_EQ)])) rfl (hb hby d5_47)
  obtain ⟨T5, X5, e5, st5⟩ := getS2 X4 hx hZ hown (host := "") (Or.inl (tw_38 hw)) Via.refl e4 f9 (g := (mkF m 67 #[.val (.ref a_LT_EQ), .val (.int 0), .val (.long p2), .second, .val (.long p3), .second] [(.ref a_LT_EQ)])) rfl (hb hby d5_67)
  obtain ⟨T6, X6, e6, st6⟩ := getS2 X5 hx hZ hown (host := "") (Or.inl (tw_42 hw)) Via.refl e5 f11 (g := (mkF m 87 #[.val (.ref a_LT_EQ), .val (.int 0), .val (.long p2), .second, .val (.long p3), .second] [(.ref a_LT_EQ)])) rfl (hb hby d5_87)
  obtain ⟨fs, hr, hrun, hended, hW, hsame⟩ := X6.leave (v := (some (.int 0))) (fun h => by rw [Bd.returns] at h; cases h)
  refine ⟨_, _, castTop (ef5_RIJJ m a_LT_EQ (0 : Int32) p2 p3) ?_, hrun, hended, _, _, rfl, ?_, ⟨_, rfl⟩, hW, hsame.mono (by decide) (by decide)⟩
  · show Steps p.tables e below (s₁.setTop (mkF m 0 #[.val (.ref a_LT_EQ), .val (.int 0), .val (.long p2), .second, .val (.long p3), .second] [])) _
    refine XS.aloadN X0.here hx rfl (hb hby d5_0) rfl rfl ?_
    show Steps p.tables e below (s₁.setTop (mkF m 1 #[.val (.ref a_LT_EQ), .val (.int 0), .val (.long p2), .second, .val (.long p3), .second] [(.ref a_LT_EQ)])) _
    refine st1 _ ?_
    show Steps p.tables e below (T1.setTop (mkF m 4 #[.val (.ref a_LT_EQ), .val (.int 0), .val (.long p2), .second, .val (.long p3), .second] [(.ref a_IS_NULL), (.ref a_LT_EQ)])) _
    refine Jvm.RoadKit.acmp (g := (mkF m 4 #[.val (.ref a_LT_EQ), .val (.int 0), .val (.long p2), .second, .val (.long p3), .second] [(.ref a_IS_NULL), (.ref a_LT_EQ)])) X1 hx rfl rfl rfl (pc0 := 4) (pc' := 9) (same := false) rfl (hb hby d5_4) rfl (decide_eq_false fun q => f2 (Value.ref.inj q)) (by decide) (by decide) ?_
    refine XS.aloadN X1.here hx rfl (hb hby d5_9) rfl rfl ?_
    show Steps p.tables e below (T1.setTop (mkF m 10 #[.val (.ref a_LT_EQ), .val (.int 0), .val (.long p2), .second, .val (.long p3), .second] [(.ref a_LT_EQ)])) _
    refine st2 _ ?_
    show Steps p.tables e below (T2.setTop (mkF m 13 #[.val (.ref a_LT_EQ), .val (.int 0), .val (.long p2), .second, .val (.long p3), .second] [(.ref a_NOT_NULL), (.ref a_LT_EQ)])) _
    refine Jvm.RoadKit.acmp (g := (mkF m 13 #[.val (.ref a_LT_EQ), .val (.int 0), .val (.long p2), .second, .val (.long p3), .second] [(.ref a_NOT_NULL), (.ref a_LT_EQ)])) X2 hx rfl rfl rfl (pc0 := 13) (pc' := 26) (same := false) rfl (hb hby d5_13) rfl (decide_eq_false fun q => f4 (Value.ref.inj q)) (by decide) (by decide) ?_
    refine XS.aloadN X2.here hx rfl (hb hby d5_26) rfl rfl ?_
    show Steps p.tables e below (T2.setTop (mkF m 27 #[.val (.ref a_LT_EQ), .val (.int 0), .val (.long p2), .second, .val (.long p3), .second] [(.ref a_LT_EQ)])) _
    refine st3 _ ?_
    show Steps p.tables e below (T3.setTop (mkF m 30 #[.val (.ref a_LT_EQ), .val (.int 0), .val (.long p2), .second, .val (.long p3), .second] [(.ref a_EQ), (.ref a_LT_EQ)])) _
    refine Jvm.RoadKit.acmp (g := (mkF m 30 #[.val (.ref a_LT_EQ), .val (.int 0), .val (.long p2), .second, .val (.long p3), .second] [(.ref a_EQ), (.ref a_LT_EQ)])) X3 hx rfl rfl rfl (pc0 := 30) (pc' := 46) (same := false) rfl (hb hby d5_30) rfl (decide_eq_false fun q => (Ne.symm f6) (Value.ref.inj q)) (by decide) (by decide) ?_
    refine XS.aloadN X3.here hx rfl (hb hby d5_46) rfl rfl ?_
    show Steps p.tables e below (T3.setTop (mkF m 47 #[.val (.ref a_LT_EQ), .val (.int 0), .val (.long p2), .second, .val (.long p3), .second] [(.ref a_LT_EQ)])) _
    refine st4 _ ?_
    show Steps p.tables e below (T4.setTop (mkF m 50 #[.val (.ref a_LT_EQ), .val (.int 0), .val (.long p2), .second, .val (.long p3), .second] [(.ref a_NOT_EQ), (.ref a_LT_EQ)])) _
    refine Jvm.RoadKit.acmp (g := (mkF m 50 #[.val (.ref a_LT_EQ), .val (.int 0), .val (.long p2), .second, .val (.long p3), .second] [(.ref a_NOT_EQ), (.ref a_LT_EQ)])) X4 hx rfl rfl rfl (pc0 := 50) (pc' := 66) (same := false) rfl (hb hby d5_50) rfl (decide_eq_false fun q => (Ne.symm f8) (Value.ref.inj q)) (by decide) (by decide) ?_
    refine XS.aloadN X4.here hx rfl (hb hby d5_66) rfl rfl ?_
    show Steps p.tables e below (T4.setTop (mkF m 67 #[.val (.ref a_LT_EQ), .val (.int 0), .val (.long p2), .second, .val (.long p3), .second] [(.ref a_LT_EQ)])) _
    refine st5 _ ?_
    show Steps p.tables e below (T5.setTop (mkF m 70 #[.val (.ref a_LT_EQ), .val (.int 0), .val (.long p2), .second, .val (.long p3), .second] [(.ref a_LT), (.ref a_LT_EQ)])) _
    refine Jvm.RoadKit.acmp (g := (mkF m 70 #[.val (.ref a_LT_EQ), .val (.int 0), .val (.long p2), .second, .val (.long p3), .second] [(.ref a_LT), (.ref a_LT_EQ)])) X5 hx rfl rfl rfl (pc0 := 70) (pc' := 86) (same := false) rfl (hb hby d5_70) rfl (decide_eq_false fun q => (Ne.symm f10) (Value.ref.inj q)) (by decide) (by decide) ?_
    refine XS.aloadN X5.here hx rfl (hb hby d5_86) rfl rfl ?_
    show Steps p.tables e below (T5.setTop (mkF m 87 #[.val (.ref a_LT_EQ), .val (.int 0), .val (.long p2), .second, .val (.long p3), .second] [(.ref a_LT_EQ)])) _
    refine st6 _ ?_
    show Steps p.tables e below (T6.setTop (mkF m 90 #[.val (.ref a_LT_EQ), .val (.int 0), .val (.long p2), .second, .val (.long p3), .second] [(.ref a_LT_EQ), (.ref a_LT_EQ)])) _
    refine Jvm.RoadKit.acmp (g := (mkF m 90 #[.val (.ref a_LT_EQ), .val (.int 0), .val (.long p2), .second, .val (.long p3), .second] [(.ref a_LT_EQ), (.ref a_LT_EQ)])) X6 hx rfl rfl rfl (pc0 := 90) (pc' := 93) (same := true) rfl (hb hby d5_90) rfl (decide_eq_true rfl) (by decide) (by decide) ?_
    refine XS.lloadN X6.here hx rfl (hb hby d5_93) rfl ?_
    refine XS.lload X6.here hx rfl (hb hby d5_94) rfl ?_
    show Steps p.tables e below (T6.setTop (mkF m 96 #[.val (.ref a_LT_EQ), .val (.int 0), .val (.long p2), .second, .val (.long p3), .second] [(.long p3), (.long p2)])) _
    refine XS.lcmp X6.here hx rfl (hb hby d5_96) rfl ?_
    show Steps p.tables e below (T6.setTop (mkF m 97 #[.val (.ref a_LT_EQ), .val (.int 0), .val (.long p2), .second, .val (.long p3), .second] [(.int (lcmpW p2 p3))])) _
    rw [f12]
    refine XS.ifYes X6.here hx rfl (pc0 := 97) (pc' := 104) rfl (hb hby d5_97) rfl (by decide) (by decide) (by decide) ?_
    refine XS.iconst X6.here hx rfl (hb hby d5_104) ?_
    show Steps p.tables e below (T6.setTop (mkF m 105 #[.val (.ref a_LT_EQ), .val (.int 0), .val (.long p2), .second, .val (.long p3), .second] [(.int 0)])) _
    exact retN X6 hx (t := .boolean) Bd.returns (by simp) (hb hby d5_105) hr
  · show QP (some (.int 0)) h0 n0 _ T6.heap _
    rw [e6]
    exact ⟨rfl, N0, rfl⟩
set_option maxRecDepth 65536 in
set_option maxHeartbeats 40000000 in
theorem rm0_78 (l : Launch) (Z : State) (a0 : Array Value) (hw : ∀ d ∈ tables_1, d.before a0 Z = true) (ws : List Jvm.Cond) (p0 : Int32) (p1 : Int32) (p2 : Int64) (p3 : Int64) (a_LT_EQ : Addr) (a_GT : Addr) (a_IS_NULL : Addr) (a_NOT_NULL : Addr) (a_EQ : Addr) (a_NOT_EQ : Addr) (a_LT : Addr) (h0 : Heap) (n0 : Nat) (Z0 : n0 ≤ h0.size) (f1 : (p0 &&& (7 : Int32)) = (3 : Int32)) (f2 : S_6 Z h0 (.ref a_LT_EQ)) (f3 : F_0 Z h0 a_LT_EQ (.int 3)) (f4 : E_0 Z h0 a_LT_EQ) (f5 : S_7 Z h0 (.ref a_GT)) (f6 : S_2 Z h0 (.ref a_IS_NULL)) (f7 : a_IS_NULL ≠ a_LT_EQ) (f8 : S_3 Z h0 (.ref a_NOT_NULL)) (f9 : a_NOT_NULL ≠ a_LT_EQ) (f10 : a_IS_NULL ≠ a_GT) (f11 : a_NOT_NULL ≠ a_GT) (f12 : E_0 Z h0 a_GT) (f13 : S_0 Z h0 (.ref a_EQ)) (f14 : a_EQ ≠ a_GT) (f15 : S_1 Z h0 (.ref a_NOT_EQ)) (f16 : a_NOT_EQ ≠ a_GT) (f17 : S_4 Z h0 (.ref a_LT)) (f18 : a_LT ≠ a_GT) (f19 : a_LT_EQ ≠ a_GT) (f20 : (lcmpW p2 p3) = (1 : Int32)) (f21 : a_EQ ≠ a_LT_EQ) (f22 : a_NOT_EQ ≠ a_LT_EQ) (f23 : a_LT ≠ a_LT_EQ) :
    MetFree l x (head1 (Jvm.Cond.code x code maxLocals ret :: ws) room_1) (fun a U => a = #[(.int p0), (.int p1), (.long p2), (.long p3)] ∧ Z.Warmed39 U.vm ∧ U.heap = h0) (fun _ _ _ _ _ => True) (fun _ U o U' => ∃ v L, o = .returned v ∧ QT n0 v U'.heap L ∧ FrameEnd U o U' L room_1.cells room_1.slots) := by
  refine MetFree.of_bodySF (plainFor_of_name pn_com_example_floe_floe_OperationNegatePinLaw) hisR ?_
  intro p e s m args below meth c s₁ Bd hml0 hP hK
  obtain ⟨rfl, hZ, hh⟩ := hP
  have hx := Bd.exec
  have hby := Bd.bytes
  have hml : c.maxLocals = 10 := hml0
  have hown : s.vm.findClass "com/example/floe/floe/OperationNegatePinLaw" = some m.cls := findClass_of_methodNamed Bd.named
  have hnm := (name_of_methodNamed Bd.named Bd.method).1
  have X0 : Stand p l e room_1 s m #[(.int p0), (.int p1), (.long p2), (.long p3)] below meth c s₁ [] 0 0 := Stand.of_body Bd
  have e0 : s₁.heap = h0 := by rw [← hh, Bd.state]; rfl
  have N0 := Fr.nil n0
  -- pc 1: com/example/floe/floe/OperationNegatePinLaw.pick
  obtain ⟨_, _, ⟨T1, L1, k1, n1⟩, -, X1, ⟨Lc1, hQ1, l1, y1, z1⟩, st1⟩ := Jvm.LawKit.callS X0 hx (y := M_0) hown (mvT hZ (tw_0 hw)) (mvT hZ (tw_1 hw)) (mvT hZ (tw_2 hw)) (mvT hZ (tw_3 hw)) (by decide) (backOf (W := 0) (rm1_65 l Z a0 hw [] p0 a_LT_EQ h0 n0 Z0 f1 f2) hZ (tw_3 hw) (tw_2 hw) (by decide) (by decide)) (g := (mkF m 1 #[.val (.int p0), .val (.int p1), .val (.long p2), .second, .val (.long p3), .second, .unset, .unset, .unset, .unset] [(.int p0)])) rfl (by rw [hml]; rfl) (argsL := [(.int p0)]) (rest := []) (lenOf pd_0 rfl) rfl (by show 2 * 0 + _ ≤ _; exact Nat.le_of_eq rfl) (hb hby at_1) (fun _ _ => ⟨rfl, e0, (by decide : 0 + 0 ≤ _), (by decide : 0 + 0 ≤ _)⟩)
  dsimp only [Pt.U, Pt.locs, Pt.cells, Pt.slots] at X1 l1 y1 z1 st1 hQ1
  subst l1 y1 z1
  obtain ⟨rfl, Nq1, e1⟩ := hQ1
  have N1 := Fr.app N0 Nq1
  -- pc 8: com/example/floe/floe/Expression$Operation.negate
  obtain ⟨cq2, kq2, q2a, q2b, q2c⟩ := isOf hZ e1 f4
  obtain ⟨_, _, ⟨T2, L2, k2, n2⟩, -, X2, ⟨Lc2, hQ2, l2, y2, z2⟩, st2⟩ := X1.virtualBack hx (y := M_3) (z := M_3) hown (mvT hZ (tw_7 hw)) (mvT hZ (tw_8 hw)) (notFace_of_selects (args := #[]) (mvT hZ (tw_10 hw))) (mvT hZ (tw_10 hw)) (mvT hZ (tw_9 hw)) (by decide) (backOf (W := 0) (rm2_67 l Z a0 hw [] a_LT_EQ a_GT h0 n0 Z0 f3 f4 f5) hZ (tw_11 hw) (tw_5 hw) (by decide) (by decide)) q2a q2c (g := (mkF m 8 #[.val (.int p0), .val (.int p1), .val (.long p2), .second, .val (.long p3), .second, .val (.ref a_LT_EQ), .unset, .unset, .unset] [(.ref a_LT_EQ)])) rfl (by rw [hml]; rfl) (Steps.refl _) (argsL := []) (rest := []) (lenOf pd_2 rfl) rfl (by show 2 * 0 + _ ≤ _; exact Nat.le_of_eq rfl) (hb hby at_8) (fun _ _ => ⟨rfl, e1, (by decide : 0 + 0 ≤ _), (by decide : 0 + 0 ≤ _)⟩)
  dsimp only [Pt.U, Pt.locs, Pt.cells, Pt.slots] at X2 l2 y2 z2 st2 hQ2
  subst l2 y2 z2
  obtain ⟨rfl, Nq2, e2⟩ := hQ2
  have N2 := Fr.app N1 Nq2
  -- pc 22: com/example/floe/floe/Expression$Operation.compares
  obtain ⟨cq3, kq3, q3a, q3b, q3c⟩ := isOf hZ e2 f4
  obtain ⟨_, _, ⟨T3, L3, k3, n3⟩, -, X3, ⟨Lc3, hQ3, l3, y3, z3⟩, st3⟩ := X2.virtualBack hx (y := M_4) (z := M_4) hown (mvT hZ (tw_23 hw)) (mvT hZ (tw_24 hw)) (notFace_of_selects (args := #[]) (mvT hZ (tw_26 hw))) (mvT hZ (tw_26 hw)) (mvT hZ (tw_25 hw)) (by decide) (backOf (W := 0) (rm4_68 l Z a0 hw [] a_LT_EQ a_IS_NULL a_NOT_NULL h0 n0 Z0 f6 f7 f8 f9) hZ (tw_27 hw) (tw_5 hw) (by decide) (by decide)) q3a q3c (g := (mkF m 22 #[.val (.int p0), .val (.int p1), .val (.long p2), .second, .val (.long p3), .second, .val (.ref a_LT_EQ), .val (.ref a_GT), .unset, .unset] [(.ref a_LT_EQ)])) rfl (by rw [hml]; rfl) (Steps.refl _) (argsL := []) (rest := []) (lenOf pd_3 rfl) rfl (by show 2 * 0 + _ ≤ _; exact Nat.le_of_eq rfl) (hb hby at_22) (fun _ _ => ⟨rfl, e2, (by decide : 0 + 0 ≤ _), (by decide : 0 + 0 ≤ _)⟩)
  dsimp only [Pt.U, Pt.locs, Pt.cells, Pt.slots] at X3 l3 y3 z3 st3 hQ3
  subst l3 y3 z3
  obtain ⟨rfl, Nq3, e3⟩ := hQ3
  have N3 := Fr.app N2 Nq3
  -- pc 51: com/example/floe/floe/Expression$Operation.compares
  obtain ⟨cq4, kq4, q4a, q4b, q4c⟩ := isOf hZ e3 f12
  obtain ⟨_, _, ⟨T4, L4, k4, n4⟩, -, X4, ⟨Lc4, hQ4, l4, y4, z4⟩, st4⟩ := X3.virtualBack hx (y := M_4) (z := M_4) hown (mvT hZ (tw_23 hw)) (mvT hZ (tw_24 hw)) (notFace_of_selects (args := #[]) (mvT hZ (tw_26 hw))) (mvT hZ (tw_26 hw)) (mvT hZ (tw_25 hw)) (by decide) (backOf (W := 0) (rm4_69 l Z a0 hw [] a_GT a_IS_NULL a_NOT_NULL h0 n0 Z0 f6 f10 f8 f11) hZ (tw_27 hw) (tw_5 hw) (by decide) (by decide)) q4a q4c (g := (mkF m 51 #[.val (.int p0), .val (.int p1), .val (.long p2), .second, .val (.long p3), .second, .val (.ref a_LT_EQ), .val (.ref a_GT), .val (.int 1), .val (.int 0)] [(.ref a_GT)])) rfl (by rw [hml]; rfl) (Steps.refl _) (argsL := []) (rest := []) (lenOf pd_3 rfl) rfl (by show 2 * 0 + _ ≤ _; exact Nat.le_of_eq rfl) (hb hby at_51) (fun _ _ => ⟨rfl, e3, (by decide : 0 + 0 ≤ _), (by decide : 0 + 0 ≤ _)⟩)
  dsimp only [Pt.U, Pt.locs, Pt.cells, Pt.slots] at X4 l4 y4 z4 st4 hQ4
  subst l4 y4 z4
  obtain ⟨rfl, Nq4, e4⟩ := hQ4
  have N4 := Fr.app N3 Nq4
  -- pc 68: com/example/floe/floe/OperationNegatePinLaw.holds
  obtain ⟨_, _, ⟨T5, L5, k5, n5⟩, -, X5, ⟨Lc5, hQ5, l5, y5, z5⟩, st5⟩ := Jvm.LawKit.callS X4 hx (y := M_5) hown (mvT hZ (tw_32 hw)) (mvT hZ (tw_33 hw)) (mvT hZ (tw_2 hw)) (mvT hZ (tw_34 hw)) (by decide) (backOf (W := 0) (rm5_76 l Z a0 hw [] a_GT p2 p3 a_IS_NULL a_NOT_NULL a_EQ a_NOT_EQ a_LT a_LT_EQ h0 n0 Z0 f6 (Ne.symm f10) f8 (Ne.symm f11) f13 f14 f15 f16 f17 f18 f2 f19 f5 f20) hZ (tw_34 hw) (tw_2 hw) (by decide) (by decide)) (g := (mkF m 68 #[.val (.int p0), .val (.int p1), .val (.long p2), .second, .val (.long p3), .second, .val (.ref a_LT_EQ), .val (.ref a_GT), .val (.int 1), .val (.int 0)] [(.long p3), (.long p2), (.int 0), (.ref a_GT)])) rfl (by rw [hml]; rfl) (argsL := [(.ref a_GT), (.int 0), (.long p2), (.long p3)]) (rest := []) (lenOf pd_4 rfl) rfl (by show 2 * 0 + _ ≤ _; exact Nat.le_of_eq rfl) (hb hby at_68) (fun _ _ => ⟨rfl, e4, (by decide : 0 + 0 ≤ _), (by decide : 0 + 0 ≤ _)⟩)
  dsimp only [Pt.U, Pt.locs, Pt.cells, Pt.slots] at X5 l5 y5 z5 st5 hQ5
  subst l5 y5 z5
  obtain ⟨rfl, Nq5, e5⟩ := hQ5
  have N5 := Fr.app N4 Nq5
  -- pc 78: com/example/floe/floe/OperationNegatePinLaw.holds
  obtain ⟨_, _, ⟨T6, L6, k6, n6⟩, -, X6, ⟨Lc6, hQ6, l6, y6, z6⟩, st6⟩ := Jvm.LawKit.callS X5 hx (y := M_5) hown (mvT hZ (tw_32 hw)) (mvT hZ (tw_33 hw)) (mvT hZ (tw_2 hw)) (mvT hZ (tw_34 hw)) (by decide) (backOf (W := 1) (rm5_77 l Z a0 hw [] a_LT_EQ p2 p3 a_IS_NULL a_NOT_NULL a_EQ a_NOT_EQ a_LT h0 n0 Z0 f6 (Ne.symm f7) f8 (Ne.symm f9) f13 f21 f15 f22 f17 f23 f2 f20) hZ (tw_34 hw) (tw_2 hw) (by decide) (by decide)) (g := (mkF m 78 #[.val (.int p0), .val (.int p1), .val (.long p2), .second, .val (.long p3), .second, .val (.ref a_LT_EQ), .val (.ref a_GT), .val (.int 1), .val (.int 0)] [(.long p3), (.long p2), (.int 0), (.ref a_LT_EQ), (.int 1)])) rfl (by rw [hml]; rfl) (argsL := [(.ref a_LT_EQ), (.int 0), (.long p2), (.long p3)]) (rest := [(.int 1)]) (lenOf pd_4 rfl) rfl (by show 2 * 0 + _ ≤ _; exact Nat.le_of_eq rfl) (hb hby at_78) (fun _ _ => ⟨rfl, e5, (by decide : 0 + 0 ≤ _), (by decide : 0 + 0 ≤ _)⟩)
  dsimp only [Pt.U, Pt.locs, Pt.cells, Pt.slots] at X6 l6 y6 z6 st6 hQ6
  subst l6 y6 z6
  obtain ⟨rfl, Nq6, e6⟩ := hQ6
  have N6 := Fr.app N5 Nq6
  obtain ⟨fs, hr, hrun, hended, hW, hsame⟩ := X6.leave (v := (some (.int 1))) (fun h => by rw [Bd.returns] at h; cases h)
  refine ⟨_, _, castTop (ef0_IIJJ m p0 p1 p2 p3) ?_, hrun, hended, _, _, rfl, ?_, ⟨_, rfl⟩, hW, hsame.mono (by decide) (by decide)⟩
  · show Steps p.tables e below (s₁.setTop (mkF m 0 #[.val (.int p0), .val (.int p1), .val (.long p2), .second, .val (.long p3), .second, .unset, .unset, .unset, .unset] [])) _
    refine XS.iloadN X0.here hx rfl (hb hby at_0) rfl ?_
    show Steps p.tables e below (s₁.setTop (mkF m 1 #[.val (.int p0), .val (.int p1), .val (.long p2), .second, .val (.long p3), .second, .unset, .unset, .unset, .unset] [(.int p0)])) _
    refine st1 _ ?_
    refine XS.astore X1.here hx rfl (hb hby at_4) rfl rfl (l' := #[.val (.int p0), .val (.int p1), .val (.long p2), .second, .val (.long p3), .second, .val (.ref a_LT_EQ), .unset, .unset, .unset]) rfl ?_
    refine XS.aload X1.here hx rfl (hb hby at_6) rfl rfl ?_
    show Steps p.tables e below (T1.setTop (mkF m 8 #[.val (.int p0), .val (.int p1), .val (.long p2), .second, .val (.long p3), .second, .val (.ref a_LT_EQ), .unset, .unset, .unset] [(.ref a_LT_EQ)])) _
    refine st2.trans ?_
    refine XS.astore X2.here hx rfl (hb hby at_11) rfl rfl (l' := #[.val (.int p0), .val (.int p1), .val (.long p2), .second, .val (.long p3), .second, .val (.ref a_LT_EQ), .val (.ref a_GT), .unset, .unset]) rfl ?_
    refine XS.aload X2.here hx rfl (hb hby at_13) rfl rfl ?_
    refine XS.ifnonnullYes X2.here hx rfl (pc0 := 15) (pc' := 20) rfl (hb hby at_15) rfl (by decide) (by decide) ?_
    refine XS.aload X2.here hx rfl (hb hby at_20) rfl rfl ?_
    show Steps p.tables e below (T2.setTop (mkF m 22 #[.val (.int p0), .val (.int p1), .val (.long p2), .second, .val (.long p3), .second, .val (.ref a_LT_EQ), .val (.ref a_GT), .unset, .unset] [(.ref a_LT_EQ)])) _
    refine st3.trans ?_
    refine XS.istore X3.here hx rfl (hb hby at_25) rfl (l' := #[.val (.int p0), .val (.int p1), .val (.long p2), .second, .val (.long p3), .second, .val (.ref a_LT_EQ), .val (.ref a_GT), .val (.int 1), .unset]) rfl ?_
    refine XS.iload X3.here hx rfl (hb hby at_27) rfl ?_
    refine XS.ifNo X3.here hx rfl (hb hby at_29) rfl (by decide) ?_
    refine XS.iconst X3.here hx rfl (hb hby at_32) ?_
    show Steps p.tables e below (T3.setTop (mkF m 33 #[.val (.int p0), .val (.int p1), .val (.long p2), .second, .val (.long p3), .second, .val (.ref a_LT_EQ), .val (.ref a_GT), .val (.int 1), .unset] [(.int 0)])) _
    refine XS.goto X3.here hx rfl (pc0 := 33) (pc' := 47) rfl (hb hby at_33) (by decide) (by decide) ?_
    refine XS.istore X3.here hx rfl (hb hby at_47) rfl (l' := #[.val (.int p0), .val (.int p1), .val (.long p2), .second, .val (.long p3), .second, .val (.ref a_LT_EQ), .val (.ref a_GT), .val (.int 1), .val (.int 0)]) rfl ?_
    refine XS.aload X3.here hx rfl (hb hby at_49) rfl rfl ?_
    show Steps p.tables e below (T3.setTop (mkF m 51 #[.val (.int p0), .val (.int p1), .val (.long p2), .second, .val (.long p3), .second, .val (.ref a_LT_EQ), .val (.ref a_GT), .val (.int 1), .val (.int 0)] [(.ref a_GT)])) _
    refine st4.trans ?_
    refine XS.iload X4.here hx rfl (hb hby at_54) rfl ?_
    refine XS.icmpYes X4.here hx rfl (pc0 := 56) (pc' := 61) rfl (hb hby at_56) rfl (by decide) (by decide) (by decide) ?_
    refine XS.aload X4.here hx rfl (hb hby at_61) rfl rfl ?_
    refine XS.iload X4.here hx rfl (hb hby at_63) rfl ?_
    show Steps p.tables e below (T4.setTop (mkF m 65 #[.val (.int p0), .val (.int p1), .val (.long p2), .second, .val (.long p3), .second, .val (.ref a_LT_EQ), .val (.ref a_GT), .val (.int 1), .val (.int 0)] [(.int 0), (.ref a_GT)])) _
    refine XS.lloadN X4.here hx rfl (hb hby at_65) rfl ?_
    refine XS.lload X4.here hx rfl (hb hby at_66) rfl ?_
    show Steps p.tables e below (T4.setTop (mkF m 68 #[.val (.int p0), .val (.int p1), .val (.long p2), .second, .val (.long p3), .second, .val (.ref a_LT_EQ), .val (.ref a_GT), .val (.int 1), .val (.int 0)] [(.long p3), (.long p2), (.int 0), (.ref a_GT)])) _
    refine st5 _ ?_
    refine XS.aload X5.here hx rfl (hb hby at_71) rfl rfl ?_
    refine XS.iload X5.here hx rfl (hb hby at_73) rfl ?_
    refine XS.lloadN X5.here hx rfl (hb hby at_75) rfl ?_
    refine XS.lload X5.here hx rfl (hb hby at_76) rfl ?_
    show Steps p.tables e below (T5.setTop (mkF m 78 #[.val (.int p0), .val (.int p1), .val (.long p2), .second, .val (.long p3), .second, .val (.ref a_LT_EQ), .val (.ref a_GT), .val (.int 1), .val (.int 0)] [(.long p3), (.long p2), (.int 0), (.ref a_LT_EQ), (.int 1)])) _
    refine st6 _ ?_
    refine XS.icmpNo X6.here hx rfl (hb hby at_81) rfl (by decide) ?_
    refine XS.iconst X6.here hx rfl (hb hby at_84) ?_
    refine XS.goto X6.here hx rfl (pc0 := 85) (pc' := 89) rfl (hb hby at_85) (by decide) (by decide) ?_
    show Steps p.tables e below (T6.setTop (mkF m 89 #[.val (.int p0), .val (.int p1), .val (.long p2), .second, .val (.long p3), .second, .val (.ref a_LT_EQ), .val (.ref a_GT), .val (.int 1), .val (.int 0)] [(.int 1)])) _
    exact retN X6 hx (t := .boolean) Bd.returns (by simp) (hb hby at_89) hr
  · show QT n0 _ T6.heap _
    rw [e6]
    exact ⟨rfl, N6⟩
theorem d1_40 : decode method_2_code 40 = .ok (.iload_n 1, 1) := by decide +kernel
theorem d1_41 : decode method_2_code 41 = .ok (.iconst 4, 1) := by decide +kernel
theorem d1_42 : decode method_2_code 42 = .ok (.if_icmp .ne 7, 3) := by decide +kernel
theorem d1_45 : decode method_2_code 45 = .ok (.getstatic 22, 3) := by decide +kernel
theorem d1_48 : decode method_2_code 48 = .ok (.areturn, 1) := by decide +kernel
set_option maxRecDepth 65536 in
set_option maxHeartbeats 40000000 in
theorem rm1_79 (l : Launch) (Z : State) (a0 : Array Value) (hw : ∀ d ∈ tables_1, d.before a0 Z = true) (ws : List Jvm.Cond) (p0 : Int32) (a_GT : Addr) (h0 : Heap) (n0 : Nat) (Z0 : n0 ≤ h0.size) (f1 : (p0 &&& (7 : Int32)) = (4 : Int32)) (f2 : S_7 Z h0 (.ref a_GT)) :
    MetFree l M_0 (head1 (Jvm.Cond.code M_0 method_2_code 2 (some (.object "com/example/floe/floe/Expression$Operation")) :: ws) R_0_0_0_0) (fun a U => a = #[(.int p0)] ∧ Z.Warmed39 U.vm ∧ U.heap = h0) (fun _ _ _ _ _ => True) (fun _ U o U' => ∃ v L, o = .returned v ∧ QP (some (.ref a_GT)) h0 n0 v U'.heap L ∧ FrameEnd U o U' L R_0_0_0_0.cells R_0_0_0_0.slots) := by
  refine MetFree.of_bodySF (plainFor_of_name pn_com_example_floe_floe_OperationNegatePinLaw) hisR ?_
  intro p e s m args below meth c s₁ Bd hml0 hP hK
  obtain ⟨rfl, hZ, hh⟩ := hP
  have hx := Bd.exec
  have hby := Bd.bytes
  have hml : c.maxLocals = 2 := hml0
  have hown : s.vm.findClass "com/example/floe/floe/OperationNegatePinLaw" = some m.cls := findClass_of_methodNamed Bd.named
  have hnm := (name_of_methodNamed Bd.named Bd.method).1
  have X0 : Stand p l e R_0_0_0_0 s m #[(.int p0)] below meth c s₁ [] 0 0 := Stand.of_body Bd
  have e0 : s₁.heap = h0 := by rw [← hh, Bd.state]; rfl
  have N0 := Fr.nil n0
  obtain ⟨T1, X1, e1, st1⟩ := getS2 X0 hx hZ hown (host := "") (Or.inl (tw_44 hw)) Via.refl e0 f2 (g := (mkF m 45 #[.val (.int p0), .val (.int 4)] [])) rfl (hb hby d1_45)
  obtain ⟨fs, hr, hrun, hended, hW, hsame⟩ := X1.leave (v := (some (.ref a_GT))) (fun h => by rw [Bd.returns] at h; cases h)
  refine ⟨_, _, castTop (ef1_I m p0) ?_, hrun, hended, _, _, rfl, ?_, ⟨_, rfl⟩, hW, hsame.mono (by decide) (by decide)⟩
  · show Steps p.tables e below (s₁.setTop (mkF m 0 #[.val (.int p0), .unset] [])) _
    refine XS.iloadN X0.here hx rfl (hb hby d1_0) rfl ?_
    refine XS.bipush X0.here hx rfl (hb hby d1_1) ?_
    show Steps p.tables e below (s₁.setTop (mkF m 3 #[.val (.int p0), .unset] [(.int 7), (.int p0)])) _
    refine XS.iand X0.here hx rfl (hb hby d1_3) rfl ?_
    show Steps p.tables e below (s₁.setTop (mkF m 4 #[.val (.int p0), .unset] [(.int (p0 &&& (7 : Int32)))])) _
    rw [f1]
    refine XS.istoreN X0.here hx rfl (hb hby d1_4) rfl (l' := #[.val (.int p0), .val (.int 4)]) rfl ?_
    refine XS.iloadN X0.here hx rfl (hb hby d1_5) rfl ?_
    refine XS.ifYes X0.here hx rfl (pc0 := 6) (pc' := 13) rfl (hb hby d1_6) rfl (by decide) (by decide) (by decide) ?_
    refine XS.iloadN X0.here hx rfl (hb hby d1_13) rfl ?_
    show Steps p.tables e below (s₁.setTop (mkF m 14 #[.val (.int p0), .val (.int 4)] [(.int 4)])) _
    refine XS.iconst X0.here hx rfl (hb hby d1_14) ?_
    refine XS.icmpYes X0.here hx rfl (pc0 := 15) (pc' := 22) rfl (hb hby d1_15) rfl (by decide) (by decide) (by decide) ?_
    refine XS.iloadN X0.here hx rfl (hb hby d1_22) rfl ?_
    refine XS.iconst X0.here hx rfl (hb hby d1_23) ?_
    refine XS.icmpYes X0.here hx rfl (pc0 := 24) (pc' := 31) rfl (hb hby d1_24) rfl (by decide) (by decide) (by decide) ?_
    show Steps p.tables e below (s₁.setTop (mkF m 31 #[.val (.int p0), .val (.int 4)] [])) _
    refine XS.iloadN X0.here hx rfl (hb hby d1_31) rfl ?_
    refine XS.iconst X0.here hx rfl (hb hby d1_32) ?_
    refine XS.icmpYes X0.here hx rfl (pc0 := 33) (pc' := 40) rfl (hb hby d1_33) rfl (by decide) (by decide) (by decide) ?_
    refine XS.iloadN X0.here hx rfl (hb hby d1_40) rfl ?_
    refine XS.iconst X0.here hx rfl (hb hby d1_41) ?_
    show Steps p.tables e below (s₁.setTop (mkF m 42 #[.val (.int p0), .val (.int 4)] [(.int 4), (.int 4)])) _
    refine XS.icmpNo X0.here hx rfl (hb hby d1_42) rfl (by decide) ?_
    show Steps p.tables e below (s₁.setTop (mkF m 45 #[.val (.int p0), .val (.int 4)] [])) _
    refine st1 _ ?_
    show Steps p.tables e below (T1.setTop (mkF m 48 #[.val (.int p0), .val (.int 4)] [(.ref a_GT)])) _
    jvm_step X1.here [X1.here.top, hx, (hb hby d1_48), X1.method', Bd.returns, Value.isRef, FieldType.isReference]
    first | (intro acts; rw [hr _ acts rfl rfl rfl]) | rw [hr _ _ rfl rfl rfl]
    exact Steps.refl _
  · show QP (some (.ref a_GT)) h0 n0 _ T1.heap _
    rw [e1]
    exact ⟨rfl, N0, rfl⟩
set_option maxRecDepth 65536 in
set_option maxHeartbeats 40000000 in
theorem rm3_80 (l : Launch) (Z : State) (a0 : Array Value) (hw : ∀ d ∈ tables_1, d.before a0 Z = true) (ws : List Jvm.Cond) (a_GT : Addr) (h0 : Heap) (n0 : Nat) (Z0 : n0 ≤ h0.size) (f1 : F_0 Z h0 a_GT (.int 4)) :
    MetFree l M_1 (head1 (Jvm.Cond.code M_1 jdk_37_method_2_code 1 (some .int) :: ws) R_0_0_0_0) (fun a U => a = #[(.ref a_GT)] ∧ Z.Warmed39 U.vm ∧ U.heap = h0) (fun _ _ _ _ _ => True) (fun _ U o U' => ∃ v L, o = .returned v ∧ QP (some (.int 4)) h0 n0 v U'.heap L ∧ FrameEnd U o U' L R_0_0_0_0.cells R_0_0_0_0.slots) := by
  refine MetFree.of_bodySF (plainFor_of_name pn_java_lang_Enum) hisR ?_
  intro p e s m args below meth c s₁ Bd hml0 hP hK
  obtain ⟨rfl, hZ, hh⟩ := hP
  have hx := Bd.exec
  have hby := Bd.bytes
  have hml : c.maxLocals = 1 := hml0
  have hown : s.vm.findClass "java/lang/Enum" = some m.cls := findClass_of_methodNamed Bd.named
  have hnm := (name_of_methodNamed Bd.named Bd.method).1
  have X0 : Stand p l e R_0_0_0_0 s m #[(.ref a_GT)] below meth c s₁ [] 0 0 := Stand.of_body Bd
  have e0 : s₁.heap = h0 := by rw [← hh, Bd.state]; rfl
  have N0 := Fr.nil n0
  obtain ⟨T1, X1, e1, st1⟩ := getF X0 hx hZ hown (host := "") (Or.inl (tw_19 hw)) Via.refl e0 f1 (g := (mkF m 1 #[.val (.ref a_GT)] [(.ref a_GT)])) rfl rfl (hb hby d3_1)
  obtain ⟨fs, hr, hrun, hended, hW, hsame⟩ := X1.leave (v := (some (.int 4))) (fun h => by rw [Bd.returns] at h; cases h)
  refine ⟨_, _, castTop (ef3_R m a_GT) ?_, hrun, hended, _, _, rfl, ?_, ⟨_, rfl⟩, hW, hsame.mono (by decide) (by decide)⟩
  · show Steps p.tables e below (s₁.setTop (mkF m 0 #[.val (.ref a_GT)] [])) _
    refine XS.aloadN X0.here hx rfl (hb hby d3_0) rfl rfl ?_
    show Steps p.tables e below (s₁.setTop (mkF m 1 #[.val (.ref a_GT)] [(.ref a_GT)])) _
    refine st1 _ ?_
    show Steps p.tables e below (T1.setTop (mkF m 4 #[.val (.ref a_GT)] [(.int 4)])) _
    exact retI X1 hx Bd.returns (hb hby d3_4) hr
  · show QP (some (.int 4)) h0 n0 _ T1.heap _
    rw [e1]
    exact ⟨rfl, N0, rfl⟩
theorem d2_86 : decode prog_13_method_7_code 86 = .ok (.getstatic 13, 3) := by decide +kernel
theorem tw_49 {a0 : Array Value} {Z : State} (hw : ∀ d ∈ tables_1, d.before a0 Z = true) : (Jvm.Cond.fieldLink "com/example/floe/floe/Expression$Operation" (13 : Nat) "com/example/floe/floe/Expression$Operation" "LT_EQ" "Lcom/example/floe/floe/Expression$Operation;").before a0 Z = true := hw _ (List.mem_of_getElem? (i := 49) rfl)
theorem d2_89 : decode prog_13_method_7_code 89 = .ok (.goto 18, 3) := by decide +kernel
set_option maxRecDepth 65536 in
set_option maxHeartbeats 40000000 in
theorem rm2_81 (l : Launch) (Z : State) (a0 : Array Value) (hw : ∀ d ∈ tables_1, d.before a0 Z = true) (ws : List Jvm.Cond) (a_GT : Addr) (a_LT_EQ : Addr) (h0 : Heap) (n0 : Nat) (Z0 : n0 ≤ h0.size) (f1 : F_0 Z h0 a_GT (.int 4)) (f2 : E_0 Z h0 a_GT) (f3 : S_6 Z h0 (.ref a_LT_EQ)) :
    MetFree l M_3 (head1 (Jvm.Cond.code M_3 prog_13_method_7_code 1 (some (.object "com/example/floe/floe/Expression$Operation")) :: ws) R_1_0_0_12) (fun a U => a = #[(.ref a_GT)] ∧ Z.Warmed39 U.vm ∧ U.heap = h0) (fun _ _ _ _ _ => True) (fun _ U o U' => ∃ v L, o = .returned v ∧ QP (some (.ref a_LT_EQ)) h0 n0 v U'.heap L ∧ FrameEnd U o U' L R_1_0_0_12.cells R_1_0_0_12.slots) := by
  refine MetFree.of_bodySF (plainFor_of_name pn_com_example_floe_floe_Expression_Operation) hisR ?_
  intro p e s m args below meth c s₁ Bd hml0 hP hK
  obtain ⟨rfl, hZ, hh⟩ := hP
  have hx := Bd.exec
  have hby := Bd.bytes
  have hml : c.maxLocals = 1 := hml0
  have hown : s.vm.findClass "com/example/floe/floe/Expression$Operation" = some m.cls := findClass_of_methodNamed Bd.named
  have hnm := (name_of_methodNamed Bd.named Bd.method).1
  have X0 : Stand p l e R_1_0_0_12 s m #[(.ref a_GT)] below meth c s₁ [] 0 0 := Stand.of_body Bd
  have e0 : s₁.heap = h0 := by rw [← hh, Bd.state]; rfl
  have N0 := Fr.nil n0
  -- pc 1: java/lang/Enum.ordinal
  obtain ⟨cq1, kq1, q1a, q1b, q1c⟩ := isOf hZ e0 f2
  obtain ⟨_, _, ⟨T1, L1, k1, n1⟩, -, X1, ⟨Lc1, hQ1, l1, y1, z1⟩, st1⟩ := X0.virtualBackUp hx (x := M_2) (y := M_1) (owner := "java/lang/Enum") hown (mvT hZ (tw_12 hw)) (mvT hZ (tw_13 hw)) (mvT hZ (tw_14 hw)) (by decide) (mvT hZ (tw_16 hw)) (mvT hZ (tw_15 hw)) (backOf (W := 0) (rm3_80 l Z a0 hw [] a_GT h0 n0 Z0 f1) hZ (tw_18 hw) (tw_17 hw) (by decide) (by decide)) q1a q1c (g := (mkF m 1 #[.val (.ref a_GT)] [(.ref a_GT)])) rfl (by rw [hml]; rfl) (Steps.refl _) (argsL := []) (rest := []) (lenOf pd_1 rfl) rfl (by show 2 * 0 + _ ≤ _; exact Nat.le_of_eq rfl) (hb hby d2_1) (fun _ _ => ⟨rfl, e0, (by decide : 0 + 0 ≤ _), (by decide : 0 + 0 ≤ _)⟩)
  dsimp only [Pt.U, Pt.locs, Pt.cells, Pt.slots] at X1 l1 y1 z1 st1 hQ1
  subst l1 y1 z1
  obtain ⟨rfl, Nq1, e1⟩ := hQ1
  have N1 := Fr.app N0 Nq1
  obtain ⟨T2, X2, e2, st2⟩ := getS2 X1 hx hZ hown (host := "") (Or.inl (tw_49 hw)) Via.refl e1 f3 (g := (mkF m 86 #[.val (.ref a_GT)] [])) rfl (hb hby d2_86)
  obtain ⟨fs, hr, hrun, hended, hW, hsame⟩ := X2.leave (v := (some (.ref a_LT_EQ))) (fun h => by rw [Bd.returns] at h; cases h)
  refine ⟨_, _, castTop (ef2_R m a_GT) ?_, hrun, hended, _, _, rfl, ?_, ⟨_, rfl⟩, hW, hsame.mono (by decide) (by decide)⟩
  · show Steps p.tables e below (s₁.setTop (mkF m 0 #[.val (.ref a_GT)] [])) _
    refine XS.aloadN X0.here hx rfl (hb hby d2_0) rfl rfl ?_
    show Steps p.tables e below (s₁.setTop (mkF m 1 #[.val (.ref a_GT)] [(.ref a_GT)])) _
    refine st1.trans ?_
    show Steps p.tables e below (T1.setTop (mkF m 4 #[.val (.ref a_GT)] [(.int 4)])) _
    refine XS.tswIn X1.here hx rfl (pc0 := 4) (pc' := 86) (o := 82) rfl (hb hby d2_4) rfl (by decide) (by decide) (by decide) (by decide) ?_
    show Steps p.tables e below (T1.setTop (mkF m 86 #[.val (.ref a_GT)] [])) _
    refine st2 _ ?_
    refine XS.goto X2.here hx rfl (pc0 := 89) (pc' := 107) rfl (hb hby d2_89) (by decide) (by decide) ?_
    show Steps p.tables e below (T2.setTop (mkF m 107 #[.val (.ref a_GT)] [(.ref a_LT_EQ)])) _
    jvm_step X2.here [X2.here.top, hx, (hb hby d2_107), X2.method', Bd.returns, Value.isRef, FieldType.isReference]
    first | (intro acts; rw [hr _ acts rfl rfl rfl]) | rw [hr _ _ rfl rfl rfl]
    exact Steps.refl _
  · show QP (some (.ref a_LT_EQ)) h0 n0 _ T2.heap _
    rw [e2]
    exact ⟨rfl, N1, rfl⟩
set_option maxRecDepth 65536 in
set_option maxHeartbeats 40000000 in
theorem rm0_82 (l : Launch) (Z : State) (a0 : Array Value) (hw : ∀ d ∈ tables_1, d.before a0 Z = true) (ws : List Jvm.Cond) (p0 : Int32) (p1 : Int32) (p2 : Int64) (p3 : Int64) (a_GT : Addr) (a_LT_EQ : Addr) (a_IS_NULL : Addr) (a_NOT_NULL : Addr) (a_EQ : Addr) (a_NOT_EQ : Addr) (a_LT : Addr) (h0 : Heap) (n0 : Nat) (Z0 : n0 ≤ h0.size) (f1 : (p0 &&& (7 : Int32)) = (4 : Int32)) (f2 : S_7 Z h0 (.ref a_GT)) (f3 : F_0 Z h0 a_GT (.int 4)) (f4 : E_0 Z h0 a_GT) (f5 : S_6 Z h0 (.ref a_LT_EQ)) (f6 : S_2 Z h0 (.ref a_IS_NULL)) (f7 : a_IS_NULL ≠ a_GT) (f8 : S_3 Z h0 (.ref a_NOT_NULL)) (f9 : a_NOT_NULL ≠ a_GT) (f10 : a_IS_NULL ≠ a_LT_EQ) (f11 : a_NOT_NULL ≠ a_LT_EQ) (f12 : E_0 Z h0 a_LT_EQ) (f13 : S_0 Z h0 (.ref a_EQ)) (f14 : a_EQ ≠ a_LT_EQ) (f15 : S_1 Z h0 (.ref a_NOT_EQ)) (f16 : a_NOT_EQ ≠ a_LT_EQ) (f17 : S_4 Z h0 (.ref a_LT)) (f18 : a_LT ≠ a_LT_EQ) (f19 : (lcmpW p2 p3) = (-1 : Int32)) (f20 : a_EQ ≠ a_GT) (f21 : a_NOT_EQ ≠ a_GT) (f22 : a_LT ≠ a_GT) (f23 : a_LT_EQ ≠ a_GT) :
    MetFree l x (head1 (Jvm.Cond.code x code maxLocals ret :: ws) room_1) (fun a U => a = #[(.int p0), (.int p1), (.long p2), (.long p3)] ∧ Z.Warmed39 U.vm ∧ U.heap = h0) (fun _ _ _ _ _ => True) (fun _ U o U' => ∃ v L, o = .returned v ∧ QT n0 v U'.heap L ∧ FrameEnd U o U' L room_1.cells room_1.slots) := by
  refine MetFree.of_bodySF (plainFor_of_name pn_com_example_floe_floe_OperationNegatePinLaw) hisR ?_
  intro p e s m args below meth c s₁ Bd hml0 hP hK
  obtain ⟨rfl, hZ, hh⟩ := hP
  have hx := Bd.exec
  have hby := Bd.bytes
  have hml : c.maxLocals = 10 := hml0
  have hown : s.vm.findClass "com/example/floe/floe/OperationNegatePinLaw" = some m.cls := findClass_of_methodNamed Bd.named
  have hnm := (name_of_methodNamed Bd.named Bd.method).1
  have X0 : Stand p l e room_1 s m #[(.int p0), (.int p1), (.long p2), (.long p3)] below meth c s₁ [] 0 0 := Stand.of_body Bd
  have e0 : s₁.heap = h0 := by rw [← hh, Bd.state]; rfl
  have N0 := Fr.nil n0
  -- pc 1: com/example/floe/floe/OperationNegatePinLaw.pick
  obtain ⟨_, _, ⟨T1, L1, k1, n1⟩, -, X1, ⟨Lc1, hQ1, l1, y1, z1⟩, st1⟩ := Jvm.LawKit.callS X0 hx (y := M_0) hown (mvT hZ (tw_0 hw)) (mvT hZ (tw_1 hw)) (mvT hZ (tw_2 hw)) (mvT hZ (tw_3 hw)) (by decide) (backOf (W := 0) (rm1_79 l Z a0 hw [] p0 a_GT h0 n0 Z0 f1 f2) hZ (tw_3 hw) (tw_2 hw) (by decide) (by decide)) (g := (mkF m 1 #[.val (.int p0), .val (.int p1), .val (.long p2), .second, .val (.long p3), .second, .unset, .unset, .unset, .unset] [(.int p0)])) rfl (by rw [hml]; rfl) (argsL := [(.int p0)]) (rest := []) (lenOf pd_0 rfl) rfl (by show 2 * 0 + _ ≤ _; exact Nat.le_of_eq rfl) (hb hby at_1) (fun _ _ => ⟨rfl, e0, (by decide : 0 + 0 ≤ _), (by decide : 0 + 0 ≤ _)⟩)
  dsimp only [Pt.U, Pt.locs, Pt.cells, Pt.slots] at X1 l1 y1 z1 st1 hQ1
  subst l1 y1 z1
  obtain ⟨rfl, Nq1, e1⟩ := hQ1
  have N1 := Fr.app N0 Nq1
  -- pc 8: com/example/floe/floe/Expression$Operation.negate
  obtain ⟨cq2, kq2, q2a, q2b, q2c⟩ := isOf hZ e1 f4
  obtain ⟨_, _, ⟨T2, L2, k2, n2⟩, -, X2, ⟨Lc2, hQ2, l2, y2, z2⟩, st2⟩ := X1.virtualBack hx (y := M_3) (z := M_3) hown (mvT hZ (tw_7 hw)) (mvT hZ (tw_8 hw)) (notFace_of_selects (args := #[]) (mvT hZ (tw_10 hw))) (mvT hZ (tw_10 hw)) (mvT hZ (tw_9 hw)) (by decide) (backOf (W := 0) (rm2_81 l Z a0 hw [] a_GT a_LT_EQ h0 n0 Z0 f3 f4 f5) hZ (tw_11 hw) (tw_5 hw) (by decide) (by decide)) q2a q2c (g := (mkF m 8 #[.val (.int p0), .val (.int p1), .val (.long p2), .second, .val (.long p3), .second, .val (.ref a_GT), .unset, .unset, .unset] [(.ref a_GT)])) rfl (by rw [hml]; rfl) (Steps.refl _) (argsL := []) (rest := []) (lenOf pd_2 rfl) rfl (by show 2 * 0 + _ ≤ _; exact Nat.le_of_eq rfl) (hb hby at_8) (fun _ _ => ⟨rfl, e1, (by decide : 0 + 0 ≤ _), (by decide : 0 + 0 ≤ _)⟩)
  dsimp only [Pt.U, Pt.locs, Pt.cells, Pt.slots] at X2 l2 y2 z2 st2 hQ2
  subst l2 y2 z2
  obtain ⟨rfl, Nq2, e2⟩ := hQ2
  have N2 := Fr.app N1 Nq2
  -- pc 22: com/example/floe/floe/Expression$Operation.compares
  obtain ⟨cq3, kq3, q3a, q3b, q3c⟩ := isOf hZ e2 f4
  obtain ⟨_, _, ⟨T3, L3, k3, n3⟩, -, X3, ⟨Lc3, hQ3, l3, y3, z3⟩, st3⟩ := X2.virtualBack hx (y := M_4) (z := M_4) hown (mvT hZ (tw_23 hw)) (mvT hZ (tw_24 hw)) (notFace_of_selects (args := #[]) (mvT hZ (tw_26 hw))) (mvT hZ (tw_26 hw)) (mvT hZ (tw_25 hw)) (by decide) (backOf (W := 0) (rm4_69 l Z a0 hw [] a_GT a_IS_NULL a_NOT_NULL h0 n0 Z0 f6 f7 f8 f9) hZ (tw_27 hw) (tw_5 hw) (by decide) (by decide)) q3a q3c (g := (mkF m 22 #[.val (.int p0), .val (.int p1), .val (.long p2), .second, .val (.long p3), .second, .val (.ref a_GT), .val (.ref a_LT_EQ), .unset, .unset] [(.ref a_GT)])) rfl (by rw [hml]; rfl) (Steps.refl _) (argsL := []) (rest := []) (lenOf pd_3 rfl) rfl (by show 2 * 0 + _ ≤ _; exact Nat.le_of_eq rfl) (hb hby at_22) (fun _ _ => ⟨rfl, e2, (by decide : 0 + 0 ≤ _), (by decide : 0 + 0 ≤ _)⟩)
  dsimp only [Pt.U, Pt.locs, Pt.cells, Pt.slots] at X3 l3 y3 z3 st3 hQ3
  subst l3 y3 z3
  obtain ⟨rfl, Nq3, e3⟩ := hQ3
  have N3 := Fr.app N2 Nq3
  -- pc 51: com/example/floe/floe/Expression$Operation.compares
  obtain ⟨cq4, kq4, q4a, q4b, q4c⟩ := isOf hZ e3 f12
  obtain ⟨_, _, ⟨T4, L4, k4, n4⟩, -, X4, ⟨Lc4, hQ4, l4, y4, z4⟩, st4⟩ := X3.virtualBack hx (y := M_4) (z := M_4) hown (mvT hZ (tw_23 hw)) (mvT hZ (tw_24 hw)) (notFace_of_selects (args := #[]) (mvT hZ (tw_26 hw))) (mvT hZ (tw_26 hw)) (mvT hZ (tw_25 hw)) (by decide) (backOf (W := 0) (rm4_68 l Z a0 hw [] a_LT_EQ a_IS_NULL a_NOT_NULL h0 n0 Z0 f6 f10 f8 f11) hZ (tw_27 hw) (tw_5 hw) (by decide) (by decide)) q4a q4c (g := (mkF m 51 #[.val (.int p0), .val (.int p1), .val (.long p2), .second, .val (.long p3), .second, .val (.ref a_GT), .val (.ref a_LT_EQ), .val (.int 1), .val (.int 0)] [(.ref a_LT_EQ)])) rfl (by rw [hml]; rfl) (Steps.refl _) (argsL := []) (rest := []) (lenOf pd_3 rfl) rfl (by show 2 * 0 + _ ≤ _; exact Nat.le_of_eq rfl) (hb hby at_51) (fun _ _ => ⟨rfl, e3, (by decide : 0 + 0 ≤ _), (by decide : 0 + 0 ≤ _)⟩)
  dsimp only [Pt.U, Pt.locs, Pt.cells, Pt.slots] at X4 l4 y4 z4 st4 hQ4
  subst l4 y4 z4
  obtain ⟨rfl, Nq4, e4⟩ := hQ4
  have N4 := Fr.app N3 Nq4
  -- pc 68: com/example/floe/floe/OperationNegatePinLaw.holds
  obtain ⟨_, _, ⟨T5, L5, k5, n5⟩, -, X5, ⟨Lc5, hQ5, l5, y5, z5⟩, st5⟩ := Jvm.LawKit.callS X4 hx (y := M_5) hown (mvT hZ (tw_32 hw)) (mvT hZ (tw_33 hw)) (mvT hZ (tw_2 hw)) (mvT hZ (tw_34 hw)) (by decide) (backOf (W := 0) (rm5_71 l Z a0 hw [] a_LT_EQ p2 p3 a_IS_NULL a_NOT_NULL a_EQ a_NOT_EQ a_LT h0 n0 Z0 f6 (Ne.symm f10) f8 (Ne.symm f11) f13 f14 f15 f16 f17 f18 f5 f19) hZ (tw_34 hw) (tw_2 hw) (by decide) (by decide)) (g := (mkF m 68 #[.val (.int p0), .val (.int p1), .val (.long p2), .second, .val (.long p3), .second, .val (.ref a_GT), .val (.ref a_LT_EQ), .val (.int 1), .val (.int 0)] [(.long p3), (.long p2), (.int 0), (.ref a_LT_EQ)])) rfl (by rw [hml]; rfl) (argsL := [(.ref a_LT_EQ), (.int 0), (.long p2), (.long p3)]) (rest := []) (lenOf pd_4 rfl) rfl (by show 2 * 0 + _ ≤ _; exact Nat.le_of_eq rfl) (hb hby at_68) (fun _ _ => ⟨rfl, e4, (by decide : 0 + 0 ≤ _), (by decide : 0 + 0 ≤ _)⟩)
  dsimp only [Pt.U, Pt.locs, Pt.cells, Pt.slots] at X5 l5 y5 z5 st5 hQ5
  subst l5 y5 z5
  obtain ⟨rfl, Nq5, e5⟩ := hQ5
  have N5 := Fr.app N4 Nq5
  -- pc 78: com/example/floe/floe/OperationNegatePinLaw.holds
  obtain ⟨_, _, ⟨T6, L6, k6, n6⟩, -, X6, ⟨Lc6, hQ6, l6, y6, z6⟩, st6⟩ := Jvm.LawKit.callS X5 hx (y := M_5) hown (mvT hZ (tw_32 hw)) (mvT hZ (tw_33 hw)) (mvT hZ (tw_2 hw)) (mvT hZ (tw_34 hw)) (by decide) (backOf (W := 1) (rm5_70 l Z a0 hw [] a_GT p2 p3 a_IS_NULL a_NOT_NULL a_EQ a_NOT_EQ a_LT a_LT_EQ h0 n0 Z0 f6 (Ne.symm f7) f8 (Ne.symm f9) f13 f20 f15 f21 f17 f22 f5 f23 f2 f19) hZ (tw_34 hw) (tw_2 hw) (by decide) (by decide)) (g := (mkF m 78 #[.val (.int p0), .val (.int p1), .val (.long p2), .second, .val (.long p3), .second, .val (.ref a_GT), .val (.ref a_LT_EQ), .val (.int 1), .val (.int 0)] [(.long p3), (.long p2), (.int 0), (.ref a_GT), (.int 1)])) rfl (by rw [hml]; rfl) (argsL := [(.ref a_GT), (.int 0), (.long p2), (.long p3)]) (rest := [(.int 1)]) (lenOf pd_4 rfl) rfl (by show 2 * 0 + _ ≤ _; exact Nat.le_of_eq rfl) (hb hby at_78) (fun _ _ => ⟨rfl, e5, (by decide : 0 + 0 ≤ _), (by decide : 0 + 0 ≤ _)⟩)
  dsimp only [Pt.U, Pt.locs, Pt.cells, Pt.slots] at X6 l6 y6 z6 st6 hQ6
  subst l6 y6 z6
  obtain ⟨rfl, Nq6, e6⟩ := hQ6
  have N6 := Fr.app N5 Nq6
  obtain ⟨fs, hr, hrun, hended, hW, hsame⟩ := X6.leave (v := (some (.int 1))) (fun h => by rw [Bd.returns] at h; cases h)
  refine ⟨_, _, castTop (ef0_IIJJ m p0 p1 p2 p3) ?_, hrun, hended, _, _, rfl, ?_, ⟨_, rfl⟩, hW, hsame.mono (by decide) (by decide)⟩
  · show Steps p.tables e below (s₁.setTop (mkF m 0 #[.val (.int p0), .val (.int p1), .val (.long p2), .second, .val (.long p3), .second, .unset, .unset, .unset, .unset] [])) _
    refine XS.iloadN X0.here hx rfl (hb hby at_0) rfl ?_
    show Steps p.tables e below (s₁.setTop (mkF m 1 #[.val (.int p0), .val (.int p1), .val (.long p2), .second, .val (.long p3), .second, .unset, .unset, .unset, .unset] [(.int p0)])) _
    refine st1 _ ?_
    refine XS.astore X1.here hx rfl (hb hby at_4) rfl rfl (l' := #[.val (.int p0), .val (.int p1), .val (.long p2), .second, .val (.long p3), .second, .val (.ref a_GT), .unset, .unset, .unset]) rfl ?_
    refine XS.aload X1.here hx rfl (hb hby at_6) rfl rfl ?_
    show Steps p.tables e below (T1.setTop (mkF m 8 #[.val (.int p0), .val (.int p1), .val (.long p2), .second, .val (.long p3), .second, .val (.ref a_GT), .unset, .unset, .unset] [(.ref a_GT)])) _
    refine st2.trans ?_
    refine XS.astore X2.here hx rfl (hb hby at_11) rfl rfl (l' := #[.val (.int p0), .val (.int p1), .val (.long p2), .second, .val (.long p3), .second, .val (.ref a_GT), .val (.ref a_LT_EQ), .unset, .unset]) rfl ?_
    refine XS.aload X2.here hx rfl (hb hby at_13) rfl rfl ?_
    refine XS.ifnonnullYes X2.here hx rfl (pc0 := 15) (pc' := 20) rfl (hb hby at_15) rfl (by decide) (by decide) ?_
    refine XS.aload X2.here hx rfl (hb hby at_20) rfl rfl ?_
    show Steps p.tables e below (T2.setTop (mkF m 22 #[.val (.int p0), .val (.int p1), .val (.long p2), .second, .val (.long p3), .second, .val (.ref a_GT), .val (.ref a_LT_EQ), .unset, .unset] [(.ref a_GT)])) _
    refine st3.trans ?_
    refine XS.istore X3.here hx rfl (hb hby at_25) rfl (l' := #[.val (.int p0), .val (.int p1), .val (.long p2), .second, .val (.long p3), .second, .val (.ref a_GT), .val (.ref a_LT_EQ), .val (.int 1), .unset]) rfl ?_
    refine XS.iload X3.here hx rfl (hb hby at_27) rfl ?_
    refine XS.ifNo X3.here hx rfl (hb hby at_29) rfl (by decide) ?_
    refine XS.iconst X3.here hx rfl (hb hby at_32) ?_
    show Steps p.tables e below (T3.setTop (mkF m 33 #[.val (.int p0), .val (.int p1), .val (.long p2), .second, .val (.long p3), .second, .val (.ref a_GT), .val (.ref a_LT_EQ), .val (.int 1), .unset] [(.int 0)])) _
    refine XS.goto X3.here hx rfl (pc0 := 33) (pc' := 47) rfl (hb hby at_33) (by decide) (by decide) ?_
    refine XS.istore X3.here hx rfl (hb hby at_47) rfl (l' := #[.val (.int p0), .val (.int p1), .val (.long p2), .second, .val (.long p3), .second, .val (.ref a_GT), .val (.ref a_LT_EQ), .val (.int 1), .val (.int 0)]) rfl ?_
    refine XS.aload X3.here hx rfl (hb hby at_49) rfl rfl ?_
    show Steps p.tables e below (T3.setTop (mkF m 51 #[.val (.int p0), .val (.int p1), .val (.long p2), .second, .val (.long p3), .second, .val (.ref a_GT), .val (.ref a_LT_EQ), .val (.int 1), .val (.int 0)] [(.ref a_LT_EQ)])) _
    refine st4.trans ?_
    refine XS.iload X4.here hx rfl (hb hby at_54) rfl ?_
    refine XS.icmpYes X4.here hx rfl (pc0 := 56) (pc' := 61) rfl (hb hby at_56) rfl (by decide) (by decide) (by decide) ?_
    refine XS.aload X4.here hx rfl (hb hby at_61) rfl rfl ?_
    refine XS.iload X4.here hx rfl (hb hby at_63) rfl ?_
    show Steps p.tables e below (T4.setTop (mkF m 65 #[.val (.int p0), .val (.int p1), .val (.long p2), .second, .val (.long p3), .second, .val (.ref a_GT), .val (.ref a_LT_EQ), .val (.int 1), .val (.int 0)] [(.int 0), (.ref a_LT_EQ)])) _
    refine XS.lloadN X4.here hx rfl (hb hby at_65) rfl ?_
    refine XS.lload X4.here hx rfl (hb hby at_66) rfl ?_
    show Steps p.tables e below (T4.setTop (mkF m 68 #[.val (.int p0), .val (.int p1), .val (.long p2), .second, .val (.long p3), .second, .val (.ref a_GT), .val (.ref a_LT_EQ), .val (.int 1), .val (.int 0)] [(.long p3), (.long p2), (.int 0), (.ref a_LT_EQ)])) _
    refine st5 _ ?_
    refine XS.aload X5.here hx rfl (hb hby at_71) rfl rfl ?_
    refine XS.iload X5.here hx rfl (hb hby at_73) rfl ?_
    refine XS.lloadN X5.here hx rfl (hb hby at_75) rfl ?_
    refine XS.lload X5.here hx rfl (hb hby at_76) rfl ?_
    show Steps p.tables e below (T5.setTop (mkF m 78 #[.val (.int p0), .val (.int p1), .val (.long p2), .second, .val (.long p3), .second, .val (.ref a_GT), .val (.ref a_LT_EQ), .val (.int 1), .val (.int 0)] [(.long p3), (.long p2), (.int 0), (.ref a_GT), (.int 1)])) _
    refine st6 _ ?_
    refine XS.icmpNo X6.here hx rfl (hb hby at_81) rfl (by decide) ?_
    refine XS.iconst X6.here hx rfl (hb hby at_84) ?_
    refine XS.goto X6.here hx rfl (pc0 := 85) (pc' := 89) rfl (hb hby at_85) (by decide) (by decide) ?_
    show Steps p.tables e below (T6.setTop (mkF m 89 #[.val (.int p0), .val (.int p1), .val (.long p2), .second, .val (.long p3), .second, .val (.ref a_GT), .val (.ref a_LT_EQ), .val (.int 1), .val (.int 0)] [(.int 1)])) _
    exact retN X6 hx (t := .boolean) Bd.returns (by simp) (hb hby at_89) hr
  · show QT n0 _ T6.heap _
    rw [e6]
    exact ⟨rfl, N6⟩
set_option maxRecDepth 65536 in
set_option maxHeartbeats 40000000 in
theorem rm0_83 (l : Launch) (Z : State) (a0 : Array Value) (hw : ∀ d ∈ tables_1, d.before a0 Z = true) (ws : List Jvm.Cond) (p0 : Int32) (p1 : Int32) (p2 : Int64) (p3 : Int64) (a_GT : Addr) (a_LT_EQ : Addr) (a_IS_NULL : Addr) (a_NOT_NULL : Addr) (a_EQ : Addr) (a_NOT_EQ : Addr) (a_LT : Addr) (h0 : Heap) (n0 : Nat) (Z0 : n0 ≤ h0.size) (f1 : (p0 &&& (7 : Int32)) = (4 : Int32)) (f2 : S_7 Z h0 (.ref a_GT)) (f3 : F_0 Z h0 a_GT (.int 4)) (f4 : E_0 Z h0 a_GT) (f5 : S_6 Z h0 (.ref a_LT_EQ)) (f6 : S_2 Z h0 (.ref a_IS_NULL)) (f7 : a_IS_NULL ≠ a_GT) (f8 : S_3 Z h0 (.ref a_NOT_NULL)) (f9 : a_NOT_NULL ≠ a_GT) (f10 : a_IS_NULL ≠ a_LT_EQ) (f11 : a_NOT_NULL ≠ a_LT_EQ) (f12 : E_0 Z h0 a_LT_EQ) (f13 : S_0 Z h0 (.ref a_EQ)) (f14 : a_EQ ≠ a_LT_EQ) (f15 : S_1 Z h0 (.ref a_NOT_EQ)) (f16 : a_NOT_EQ ≠ a_LT_EQ) (f17 : S_4 Z h0 (.ref a_LT)) (f18 : a_LT ≠ a_LT_EQ) (f19 : (lcmpW p2 p3) = (0 : Int32)) (f20 : a_EQ ≠ a_GT) (f21 : a_NOT_EQ ≠ a_GT) (f22 : a_LT ≠ a_GT) (f23 : a_LT_EQ ≠ a_GT) :
    MetFree l x (head1 (Jvm.Cond.code x code maxLocals ret :: ws) room_1) (fun a U => a = #[(.int p0), (.int p1), (.long p2), (.long p3)] ∧ Z.Warmed39 U.vm ∧ U.heap = h0) (fun _ _ _ _ _ => True) (fun _ U o U' => ∃ v L, o = .returned v ∧ QT n0 v U'.heap L ∧ FrameEnd U o U' L room_1.cells room_1.slots) := by
  refine MetFree.of_bodySF (plainFor_of_name pn_com_example_floe_floe_OperationNegatePinLaw) hisR ?_
  intro p e s m args below meth c s₁ Bd hml0 hP hK
  obtain ⟨rfl, hZ, hh⟩ := hP
  have hx := Bd.exec
  have hby := Bd.bytes
  have hml : c.maxLocals = 10 := hml0
  have hown : s.vm.findClass "com/example/floe/floe/OperationNegatePinLaw" = some m.cls := findClass_of_methodNamed Bd.named
  have hnm := (name_of_methodNamed Bd.named Bd.method).1
  have X0 : Stand p l e room_1 s m #[(.int p0), (.int p1), (.long p2), (.long p3)] below meth c s₁ [] 0 0 := Stand.of_body Bd
  have e0 : s₁.heap = h0 := by rw [← hh, Bd.state]; rfl
  have N0 := Fr.nil n0
  -- pc 1: com/example/floe/floe/OperationNegatePinLaw.pick
  obtain ⟨_, _, ⟨T1, L1, k1, n1⟩, -, X1, ⟨Lc1, hQ1, l1, y1, z1⟩, st1⟩ := Jvm.LawKit.callS X0 hx (y := M_0) hown (mvT hZ (tw_0 hw)) (mvT hZ (tw_1 hw)) (mvT hZ (tw_2 hw)) (mvT hZ (tw_3 hw)) (by decide) (backOf (W := 0) (rm1_79 l Z a0 hw [] p0 a_GT h0 n0 Z0 f1 f2) hZ (tw_3 hw) (tw_2 hw) (by decide) (by decide)) (g := (mkF m 1 #[.val (.int p0), .val (.int p1), .val (.long p2), .second, .val (.long p3), .second, .unset, .unset, .unset, .unset] [(.int p0)])) rfl (by rw [hml]; rfl) (argsL := [(.int p0)]) (rest := []) (lenOf pd_0 rfl) rfl (by show 2 * 0 + _ ≤ _; exact Nat.le_of_eq rfl) (hb hby at_1) (fun _ _ => ⟨rfl, e0, (by decide : 0 + 0 ≤ _), (by decide : 0 + 0 ≤ _)⟩)
  dsimp only [Pt.U, Pt.locs, Pt.cells, Pt.slots] at X1 l1 y1 z1 st1 hQ1
  subst l1 y1 z1
  obtain ⟨rfl, Nq1, e1⟩ := hQ1
  have N1 := Fr.app N0 Nq1
  -- pc 8: com/example/floe/floe/Expression$Operation.negate
  obtain ⟨cq2, kq2, q2a, q2b, q2c⟩ := isOf hZ e1 f4
  obtain ⟨_, _, ⟨T2, L2, k2, n2⟩, -, X2, ⟨Lc2, hQ2, l2, y2, z2⟩, st2⟩ := X1.virtualBack hx (y := M_3) (z := M_3) hown (mvT hZ (tw_7 hw)) (mvT hZ (tw_8 hw)) (notFace_of_selects (args := #[]) (mvT hZ (tw_10 hw))) (mvT hZ (tw_10 hw)) (mvT hZ (tw_9 hw)) (by decide) (backOf (W := 0) (rm2_81 l Z a0 hw [] a_GT a_LT_EQ h0 n0 Z0 f3 f4 f5) hZ (tw_11 hw) (tw_5 hw) (by decide) (by decide)) q2a q2c (g := (mkF m 8 #[.val (.int p0), .val (.int p1), .val (.long p2), .second, .val (.long p3), .second, .val (.ref a_GT), .unset, .unset, .unset] [(.ref a_GT)])) rfl (by rw [hml]; rfl) (Steps.refl _) (argsL := []) (rest := []) (lenOf pd_2 rfl) rfl (by show 2 * 0 + _ ≤ _; exact Nat.le_of_eq rfl) (hb hby at_8) (fun _ _ => ⟨rfl, e1, (by decide : 0 + 0 ≤ _), (by decide : 0 + 0 ≤ _)⟩)
  dsimp only [Pt.U, Pt.locs, Pt.cells, Pt.slots] at X2 l2 y2 z2 st2 hQ2
  subst l2 y2 z2
  obtain ⟨rfl, Nq2, e2⟩ := hQ2
  have N2 := Fr.app N1 Nq2
  -- pc 22: com/example/floe/floe/Expression$Operation.compares
  obtain ⟨cq3, kq3, q3a, q3b, q3c⟩ := isOf hZ e2 f4
  obtain ⟨_, _, ⟨T3, L3, k3, n3⟩, -, X3, ⟨Lc3, hQ3, l3, y3, z3⟩, st3⟩ := X2.virtualBack hx (y := M_4) (z := M_4) hown (mvT hZ (tw_23 hw)) (mvT hZ (tw_24 hw)) (notFace_of_selects (args := #[]) (mvT hZ (tw_26 hw))) (mvT hZ (tw_26 hw)) (mvT hZ (tw_25 hw)) (by decide) (backOf (W := 0) (rm4_69 l Z a0 hw [] a_GT a_IS_NULL a_NOT_NULL h0 n0 Z0 f6 f7 f8 f9) hZ (tw_27 hw) (tw_5 hw) (by decide) (by decide)) q3a q3c (g := (mkF m 22 #[.val (.int p0), .val (.int p1), .val (.long p2), .second, .val (.long p3), .second, .val (.ref a_GT), .val (.ref a_LT_EQ), .unset, .unset] [(.ref a_GT)])) rfl (by rw [hml]; rfl) (Steps.refl _) (argsL := []) (rest := []) (lenOf pd_3 rfl) rfl (by show 2 * 0 + _ ≤ _; exact Nat.le_of_eq rfl) (hb hby at_22) (fun _ _ => ⟨rfl, e2, (by decide : 0 + 0 ≤ _), (by decide : 0 + 0 ≤ _)⟩)
  dsimp only [Pt.U, Pt.locs, Pt.cells, Pt.slots] at X3 l3 y3 z3 st3 hQ3
  subst l3 y3 z3
  obtain ⟨rfl, Nq3, e3⟩ := hQ3
  have N3 := Fr.app N2 Nq3
  -- pc 51: com/example/floe/floe/Expression$Operation.compares
  obtain ⟨cq4, kq4, q4a, q4b, q4c⟩ := isOf hZ e3 f12
  obtain ⟨_, _, ⟨T4, L4, k4, n4⟩, -, X4, ⟨Lc4, hQ4, l4, y4, z4⟩, st4⟩ := X3.virtualBack hx (y := M_4) (z := M_4) hown (mvT hZ (tw_23 hw)) (mvT hZ (tw_24 hw)) (notFace_of_selects (args := #[]) (mvT hZ (tw_26 hw))) (mvT hZ (tw_26 hw)) (mvT hZ (tw_25 hw)) (by decide) (backOf (W := 0) (rm4_68 l Z a0 hw [] a_LT_EQ a_IS_NULL a_NOT_NULL h0 n0 Z0 f6 f10 f8 f11) hZ (tw_27 hw) (tw_5 hw) (by decide) (by decide)) q4a q4c (g := (mkF m 51 #[.val (.int p0), .val (.int p1), .val (.long p2), .second, .val (.long p3), .second, .val (.ref a_GT), .val (.ref a_LT_EQ), .val (.int 1), .val (.int 0)] [(.ref a_LT_EQ)])) rfl (by rw [hml]; rfl) (Steps.refl _) (argsL := []) (rest := []) (lenOf pd_3 rfl) rfl (by show 2 * 0 + _ ≤ _; exact Nat.le_of_eq rfl) (hb hby at_51) (fun _ _ => ⟨rfl, e3, (by decide : 0 + 0 ≤ _), (by decide : 0 + 0 ≤ _)⟩)
  dsimp only [Pt.U, Pt.locs, Pt.cells, Pt.slots] at X4 l4 y4 z4 st4 hQ4
  subst l4 y4 z4
  obtain ⟨rfl, Nq4, e4⟩ := hQ4
  have N4 := Fr.app N3 Nq4
  -- pc 68: com/example/floe/floe/OperationNegatePinLaw.holds
  obtain ⟨_, _, ⟨T5, L5, k5, n5⟩, -, X5, ⟨Lc5, hQ5, l5, y5, z5⟩, st5⟩ := Jvm.LawKit.callS X4 hx (y := M_5) hown (mvT hZ (tw_32 hw)) (mvT hZ (tw_33 hw)) (mvT hZ (tw_2 hw)) (mvT hZ (tw_34 hw)) (by decide) (backOf (W := 0) (rm5_74 l Z a0 hw [] a_LT_EQ p2 p3 a_IS_NULL a_NOT_NULL a_EQ a_NOT_EQ a_LT h0 n0 Z0 f6 (Ne.symm f10) f8 (Ne.symm f11) f13 f14 f15 f16 f17 f18 f5 f19) hZ (tw_34 hw) (tw_2 hw) (by decide) (by decide)) (g := (mkF m 68 #[.val (.int p0), .val (.int p1), .val (.long p2), .second, .val (.long p3), .second, .val (.ref a_GT), .val (.ref a_LT_EQ), .val (.int 1), .val (.int 0)] [(.long p3), (.long p2), (.int 0), (.ref a_LT_EQ)])) rfl (by rw [hml]; rfl) (argsL := [(.ref a_LT_EQ), (.int 0), (.long p2), (.long p3)]) (rest := []) (lenOf pd_4 rfl) rfl (by show 2 * 0 + _ ≤ _; exact Nat.le_of_eq rfl) (hb hby at_68) (fun _ _ => ⟨rfl, e4, (by decide : 0 + 0 ≤ _), (by decide : 0 + 0 ≤ _)⟩)
  dsimp only [Pt.U, Pt.locs, Pt.cells, Pt.slots] at X5 l5 y5 z5 st5 hQ5
  subst l5 y5 z5
  obtain ⟨rfl, Nq5, e5⟩ := hQ5
  have N5 := Fr.app N4 Nq5
  -- pc 78: com/example/floe/floe/OperationNegatePinLaw.holds
  obtain ⟨_, _, ⟨T6, L6, k6, n6⟩, -, X6, ⟨Lc6, hQ6, l6, y6, z6⟩, st6⟩ := Jvm.LawKit.callS X5 hx (y := M_5) hown (mvT hZ (tw_32 hw)) (mvT hZ (tw_33 hw)) (mvT hZ (tw_2 hw)) (mvT hZ (tw_34 hw)) (by decide) (backOf (W := 1) (rm5_73 l Z a0 hw [] a_GT p2 p3 a_IS_NULL a_NOT_NULL a_EQ a_NOT_EQ a_LT a_LT_EQ h0 n0 Z0 f6 (Ne.symm f7) f8 (Ne.symm f9) f13 f20 f15 f21 f17 f22 f5 f23 f2 f19) hZ (tw_34 hw) (tw_2 hw) (by decide) (by decide)) (g := (mkF m 78 #[.val (.int p0), .val (.int p1), .val (.long p2), .second, .val (.long p3), .second, .val (.ref a_GT), .val (.ref a_LT_EQ), .val (.int 1), .val (.int 0)] [(.long p3), (.long p2), (.int 0), (.ref a_GT), (.int 1)])) rfl (by rw [hml]; rfl) (argsL := [(.ref a_GT), (.int 0), (.long p2), (.long p3)]) (rest := [(.int 1)]) (lenOf pd_4 rfl) rfl (by show 2 * 0 + _ ≤ _; exact Nat.le_of_eq rfl) (hb hby at_78) (fun _ _ => ⟨rfl, e5, (by decide : 0 + 0 ≤ _), (by decide : 0 + 0 ≤ _)⟩)
  dsimp only [Pt.U, Pt.locs, Pt.cells, Pt.slots] at X6 l6 y6 z6 st6 hQ6
  subst l6 y6 z6
  obtain ⟨rfl, Nq6, e6⟩ := hQ6
  have N6 := Fr.app N5 Nq6
  obtain ⟨fs, hr, hrun, hended, hW, hsame⟩ := X6.leave (v := (some (.int 1))) (fun h => by rw [Bd.returns] at h; cases h)
  refine ⟨_, _, castTop (ef0_IIJJ m p0 p1 p2 p3) ?_, hrun, hended, _, _, rfl, ?_, ⟨_, rfl⟩, hW, hsame.mono (by decide) (by decide)⟩
  · show Steps p.tables e below (s₁.setTop (mkF m 0 #[.val (.int p0), .val (.int p1), .val (.long p2), .second, .val (.long p3), .second, .unset, .unset, .unset, .unset] [])) _
    refine XS.iloadN X0.here hx rfl (hb hby at_0) rfl ?_
    show Steps p.tables e below (s₁.setTop (mkF m 1 #[.val (.int p0), .val (.int p1), .val (.long p2), .second, .val (.long p3), .second, .unset, .unset, .unset, .unset] [(.int p0)])) _
    refine st1 _ ?_
    refine XS.astore X1.here hx rfl (hb hby at_4) rfl rfl (l' := #[.val (.int p0), .val (.int p1), .val (.long p2), .second, .val (.long p3), .second, .val (.ref a_GT), .unset, .unset, .unset]) rfl ?_
    refine XS.aload X1.here hx rfl (hb hby at_6) rfl rfl ?_
    show Steps p.tables e below (T1.setTop (mkF m 8 #[.val (.int p0), .val (.int p1), .val (.long p2), .second, .val (.long p3), .second, .val (.ref a_GT), .unset, .unset, .unset] [(.ref a_GT)])) _
    refine st2.trans ?_
    refine XS.astore X2.here hx rfl (hb hby at_11) rfl rfl (l' := #[.val (.int p0), .val (.int p1), .val (.long p2), .second, .val (.long p3), .second, .val (.ref a_GT), .val (.ref a_LT_EQ), .unset, .unset]) rfl ?_
    refine XS.aload X2.here hx rfl (hb hby at_13) rfl rfl ?_
    refine XS.ifnonnullYes X2.here hx rfl (pc0 := 15) (pc' := 20) rfl (hb hby at_15) rfl (by decide) (by decide) ?_
    refine XS.aload X2.here hx rfl (hb hby at_20) rfl rfl ?_
    show Steps p.tables e below (T2.setTop (mkF m 22 #[.val (.int p0), .val (.int p1), .val (.long p2), .second, .val (.long p3), .second, .val (.ref a_GT), .val (.ref a_LT_EQ), .unset, .unset] [(.ref a_GT)])) _
    refine st3.trans ?_
    refine XS.istore X3.here hx rfl (hb hby at_25) rfl (l' := #[.val (.int p0), .val (.int p1), .val (.long p2), .second, .val (.long p3), .second, .val (.ref a_GT), .val (.ref a_LT_EQ), .val (.int 1), .unset]) rfl ?_
    refine XS.iload X3.here hx rfl (hb hby at_27) rfl ?_
    refine XS.ifNo X3.here hx rfl (hb hby at_29) rfl (by decide) ?_
    refine XS.iconst X3.here hx rfl (hb hby at_32) ?_
    show Steps p.tables e below (T3.setTop (mkF m 33 #[.val (.int p0), .val (.int p1), .val (.long p2), .second, .val (.long p3), .second, .val (.ref a_GT), .val (.ref a_LT_EQ), .val (.int 1), .unset] [(.int 0)])) _
    refine XS.goto X3.here hx rfl (pc0 := 33) (pc' := 47) rfl (hb hby at_33) (by decide) (by decide) ?_
    refine XS.istore X3.here hx rfl (hb hby at_47) rfl (l' := #[.val (.int p0), .val (.int p1), .val (.long p2), .second, .val (.long p3), .second, .val (.ref a_GT), .val (.ref a_LT_EQ), .val (.int 1), .val (.int 0)]) rfl ?_
    refine XS.aload X3.here hx rfl (hb hby at_49) rfl rfl ?_
    show Steps p.tables e below (T3.setTop (mkF m 51 #[.val (.int p0), .val (.int p1), .val (.long p2), .second, .val (.long p3), .second, .val (.ref a_GT), .val (.ref a_LT_EQ), .val (.int 1), .val (.int 0)] [(.ref a_LT_EQ)])) _
    refine st4.trans ?_
    refine XS.iload X4.here hx rfl (hb hby at_54) rfl ?_
    refine XS.icmpYes X4.here hx rfl (pc0 := 56) (pc' := 61) rfl (hb hby at_56) rfl (by decide) (by decide) (by decide) ?_
    refine XS.aload X4.here hx rfl (hb hby at_61) rfl rfl ?_
    refine XS.iload X4.here hx rfl (hb hby at_63) rfl ?_
    show Steps p.tables e below (T4.setTop (mkF m 65 #[.val (.int p0), .val (.int p1), .val (.long p2), .second, .val (.long p3), .second, .val (.ref a_GT), .val (.ref a_LT_EQ), .val (.int 1), .val (.int 0)] [(.int 0), (.ref a_LT_EQ)])) _
    refine XS.lloadN X4.here hx rfl (hb hby at_65) rfl ?_
    refine XS.lload X4.here hx rfl (hb hby at_66) rfl ?_
    show Steps p.tables e below (T4.setTop (mkF m 68 #[.val (.int p0), .val (.int p1), .val (.long p2), .second, .val (.long p3), .second, .val (.ref a_GT), .val (.ref a_LT_EQ), .val (.int 1), .val (.int 0)] [(.long p3), (.long p2), (.int 0), (.ref a_LT_EQ)])) _
    refine st5 _ ?_
    refine XS.aload X5.here hx rfl (hb hby at_71) rfl rfl ?_
    refine XS.iload X5.here hx rfl (hb hby at_73) rfl ?_
    refine XS.lloadN X5.here hx rfl (hb hby at_75) rfl ?_
    refine XS.lload X5.here hx rfl (hb hby at_76) rfl ?_
    show Steps p.tables e below (T5.setTop (mkF m 78 #[.val (.int p0), .val (.int p1), .val (.long p2), .second, .val (.long p3), .second, .val (.ref a_GT), .val (.ref a_LT_EQ), .val (.int 1), .val (.int 0)] [(.long p3), (.long p2), (.int 0), (.ref a_GT), (.int 1)])) _
    refine st6 _ ?_
    refine XS.icmpNo X6.here hx rfl (hb hby at_81) rfl (by decide) ?_
    refine XS.iconst X6.here hx rfl (hb hby at_84) ?_
    refine XS.goto X6.here hx rfl (pc0 := 85) (pc' := 89) rfl (hb hby at_85) (by decide) (by decide) ?_
    show Steps p.tables e below (T6.setTop (mkF m 89 #[.val (.int p0), .val (.int p1), .val (.long p2), .second, .val (.long p3), .second, .val (.ref a_GT), .val (.ref a_LT_EQ), .val (.int 1), .val (.int 0)] [(.int 1)])) _
    exact retN X6 hx (t := .boolean) Bd.returns (by simp) (hb hby at_89) hr
  · show QT n0 _ T6.heap _
    rw [e6]
    exact ⟨rfl, N6⟩
set_option maxRecDepth 65536 in
set_option maxHeartbeats 40000000 in
theorem rm0_84 (l : Launch) (Z : State) (a0 : Array Value) (hw : ∀ d ∈ tables_1, d.before a0 Z = true) (ws : List Jvm.Cond) (p0 : Int32) (p1 : Int32) (p2 : Int64) (p3 : Int64) (a_GT : Addr) (a_LT_EQ : Addr) (a_IS_NULL : Addr) (a_NOT_NULL : Addr) (a_EQ : Addr) (a_NOT_EQ : Addr) (a_LT : Addr) (h0 : Heap) (n0 : Nat) (Z0 : n0 ≤ h0.size) (f1 : (p0 &&& (7 : Int32)) = (4 : Int32)) (f2 : S_7 Z h0 (.ref a_GT)) (f3 : F_0 Z h0 a_GT (.int 4)) (f4 : E_0 Z h0 a_GT) (f5 : S_6 Z h0 (.ref a_LT_EQ)) (f6 : S_2 Z h0 (.ref a_IS_NULL)) (f7 : a_IS_NULL ≠ a_GT) (f8 : S_3 Z h0 (.ref a_NOT_NULL)) (f9 : a_NOT_NULL ≠ a_GT) (f10 : a_IS_NULL ≠ a_LT_EQ) (f11 : a_NOT_NULL ≠ a_LT_EQ) (f12 : E_0 Z h0 a_LT_EQ) (f13 : S_0 Z h0 (.ref a_EQ)) (f14 : a_EQ ≠ a_LT_EQ) (f15 : S_1 Z h0 (.ref a_NOT_EQ)) (f16 : a_NOT_EQ ≠ a_LT_EQ) (f17 : S_4 Z h0 (.ref a_LT)) (f18 : a_LT ≠ a_LT_EQ) (f19 : (lcmpW p2 p3) = (1 : Int32)) (f20 : a_EQ ≠ a_GT) (f21 : a_NOT_EQ ≠ a_GT) (f22 : a_LT ≠ a_GT) (f23 : a_LT_EQ ≠ a_GT) :
    MetFree l x (head1 (Jvm.Cond.code x code maxLocals ret :: ws) room_1) (fun a U => a = #[(.int p0), (.int p1), (.long p2), (.long p3)] ∧ Z.Warmed39 U.vm ∧ U.heap = h0) (fun _ _ _ _ _ => True) (fun _ U o U' => ∃ v L, o = .returned v ∧ QT n0 v U'.heap L ∧ FrameEnd U o U' L room_1.cells room_1.slots) := by
  refine MetFree.of_bodySF (plainFor_of_name pn_com_example_floe_floe_OperationNegatePinLaw) hisR ?_
  intro p e s m args below meth c s₁ Bd hml0 hP hK
  obtain ⟨rfl, hZ, hh⟩ := hP
  have hx := Bd.exec
  have hby := Bd.bytes
  have hml : c.maxLocals = 10 := hml0
  have hown : s.vm.findClass "com/example/floe/floe/OperationNegatePinLaw" = some m.cls := findClass_of_methodNamed Bd.named
  have hnm := (name_of_methodNamed Bd.named Bd.method).1
  have X0 : Stand p l e room_1 s m #[(.int p0), (.int p1), (.long p2), (.long p3)] below meth c s₁ [] 0 0 := Stand.of_body Bd
  have e0 : s₁.heap = h0 := by rw [← hh, Bd.state]; rfl
  have N0 := Fr.nil n0
  -- pc 1: com/example/floe/floe/OperationNegatePinLaw.pick
  obtain ⟨_, _, ⟨T1, L1, k1, n1⟩, -, X1, ⟨Lc1, hQ1, l1, y1, z1⟩, st1⟩ := Jvm.LawKit.callS X0 hx (y := M_0) hown (mvT hZ (tw_0 hw)) (mvT hZ (tw_1 hw)) (mvT hZ (tw_2 hw)) (mvT hZ (tw_3 hw)) (by decide) (backOf (W := 0) (rm1_79 l Z a0 hw [] p0 a_GT h0 n0 Z0 f1 f2) hZ (tw_3 hw) (tw_2 hw) (by decide) (by decide)) (g := (mkF m 1 #[.val (.int p0), .val (.int p1), .val (.long p2), .second, .val (.long p3), .second, .unset, .unset, .unset, .unset] [(.int p0)])) rfl (by rw [hml]; rfl) (argsL := [(.int p0)]) (rest := []) (lenOf pd_0 rfl) rfl (by show 2 * 0 + _ ≤ _; exact Nat.le_of_eq rfl) (hb hby at_1) (fun _ _ => ⟨rfl, e0, (by decide : 0 + 0 ≤ _), (by decide : 0 + 0 ≤ _)⟩)
  dsimp only [Pt.U, Pt.locs, Pt.cells, Pt.slots] at X1 l1 y1 z1 st1 hQ1
  subst l1 y1 z1
  obtain ⟨rfl, Nq1, e1⟩ := hQ1
  have N1 := Fr.app N0 Nq1
  -- pc 8: com/example/floe/floe/Expression$Operation.negate
  obtain ⟨cq2, kq2, q2a, q2b, q2c⟩ := isOf hZ e1 f4
  obtain ⟨_, _, ⟨T2, L2, k2, n2⟩, -, X2, ⟨Lc2, hQ2, l2, y2, z2⟩, st2⟩ := X1.virtualBack hx (y := M_3) (z := M_3) hown (mvT hZ (tw_7 hw)) (mvT hZ (tw_8 hw)) (notFace_of_selects (args := #[]) (mvT hZ (tw_10 hw))) (mvT hZ (tw_10 hw)) (mvT hZ (tw_9 hw)) (by decide) (backOf (W := 0) (rm2_81 l Z a0 hw [] a_GT a_LT_EQ h0 n0 Z0 f3 f4 f5) hZ (tw_11 hw) (tw_5 hw) (by decide) (by decide)) q2a q2c (g := (mkF m 8 #[.val (.int p0), .val (.int p1), .val (.long p2), .second, .val (.long p3), .second, .val (.ref a_GT), .unset, .unset, .unset] [(.ref a_GT)])) rfl (by rw [hml]; rfl) (Steps.refl _) (argsL := []) (rest := []) (lenOf pd_2 rfl) rfl (by show 2 * 0 + _ ≤ _; exact Nat.le_of_eq rfl) (hb hby at_8) (fun _ _ => ⟨rfl, e1, (by decide : 0 + 0 ≤ _), (by decide : 0 + 0 ≤ _)⟩)
  dsimp only [Pt.U, Pt.locs, Pt.cells, Pt.slots] at X2 l2 y2 z2 st2 hQ2
  subst l2 y2 z2
  obtain ⟨rfl, Nq2, e2⟩ := hQ2
  have N2 := Fr.app N1 Nq2
  -- pc 22: com/example/floe/floe/Expression$Operation.compares
  obtain ⟨cq3, kq3, q3a, q3b, q3c⟩ := isOf hZ e2 f4
  obtain ⟨_, _, ⟨T3, L3, k3, n3⟩, -, X3, ⟨Lc3, hQ3, l3, y3, z3⟩, st3⟩ := X2.virtualBack hx (y := M_4) (z := M_4) hown (mvT hZ (tw_23 hw)) (mvT hZ (tw_24 hw)) (notFace_of_selects (args := #[]) (mvT hZ (tw_26 hw))) (mvT hZ (tw_26 hw)) (mvT hZ (tw_25 hw)) (by decide) (backOf (W := 0) (rm4_69 l Z a0 hw [] a_GT a_IS_NULL a_NOT_NULL h0 n0 Z0 f6 f7 f8 f9) hZ (tw_27 hw) (tw_5 hw) (by decide) (by decide)) q3a q3c (g := (mkF m 22 #[.val (.int p0), .val (.int p1), .val (.long p2), .second, .val (.long p3), .second, .val (.ref a_GT), .val (.ref a_LT_EQ), .unset, .unset] [(.ref a_GT)])) rfl (by rw [hml]; rfl) (Steps.refl _) (argsL := []) (rest := []) (lenOf pd_3 rfl) rfl (by show 2 * 0 + _ ≤ _; exact Nat.le_of_eq rfl) (hb hby at_22) (fun _ _ => ⟨rfl, e2, (by decide : 0 + 0 ≤ _), (by decide : 0 + 0 ≤ _)⟩)
  dsimp only [Pt.U, Pt.locs, Pt.cells, Pt.slots] at X3 l3 y3 z3 st3 hQ3
  subst l3 y3 z3
  obtain ⟨rfl, Nq3, e3⟩ := hQ3
  have N3 := Fr.app N2 Nq3
  -- pc 51: com/example/floe/floe/Expression$Operation.compares
  obtain ⟨cq4, kq4, q4a, q4b, q4c⟩ := isOf hZ e3 f12
  obtain ⟨_, _, ⟨T4, L4, k4, n4⟩, -, X4, ⟨Lc4, hQ4, l4, y4, z4⟩, st4⟩ := X3.virtualBack hx (y := M_4) (z := M_4) hown (mvT hZ (tw_23 hw)) (mvT hZ (tw_24 hw)) (notFace_of_selects (args := #[]) (mvT hZ (tw_26 hw))) (mvT hZ (tw_26 hw)) (mvT hZ (tw_25 hw)) (by decide) (backOf (W := 0) (rm4_68 l Z a0 hw [] a_LT_EQ a_IS_NULL a_NOT_NULL h0 n0 Z0 f6 f10 f8 f11) hZ (tw_27 hw) (tw_5 hw) (by decide) (by decide)) q4a q4c (g := (mkF m 51 #[.val (.int p0), .val (.int p1), .val (.long p2), .second, .val (.long p3), .second, .val (.ref a_GT), .val (.ref a_LT_EQ), .val (.int 1), .val (.int 0)] [(.ref a_LT_EQ)])) rfl (by rw [hml]; rfl) (Steps.refl _) (argsL := []) (rest := []) (lenOf pd_3 rfl) rfl (by show 2 * 0 + _ ≤ _; exact Nat.le_of_eq rfl) (hb hby at_51) (fun _ _ => ⟨rfl, e3, (by decide : 0 + 0 ≤ _), (by decide : 0 + 0 ≤ _)⟩)
  dsimp only [Pt.U, Pt.locs, Pt.cells, Pt.slots] at X4 l4 y4 z4 st4 hQ4
  subst l4 y4 z4
  obtain ⟨rfl, Nq4, e4⟩ := hQ4
  have N4 := Fr.app N3 Nq4
  -- pc 68: com/example/floe/floe/OperationNegatePinLaw.holds
  obtain ⟨_, _, ⟨T5, L5, k5, n5⟩, -, X5, ⟨Lc5, hQ5, l5, y5, z5⟩, st5⟩ := Jvm.LawKit.callS X4 hx (y := M_5) hown (mvT hZ (tw_32 hw)) (mvT hZ (tw_33 hw)) (mvT hZ (tw_2 hw)) (mvT hZ (tw_34 hw)) (by decide) (backOf (W := 0) (rm5_77 l Z a0 hw [] a_LT_EQ p2 p3 a_IS_NULL a_NOT_NULL a_EQ a_NOT_EQ a_LT h0 n0 Z0 f6 (Ne.symm f10) f8 (Ne.symm f11) f13 f14 f15 f16 f17 f18 f5 f19) hZ (tw_34 hw) (tw_2 hw) (by decide) (by decide)) (g := (mkF m 68 #[.val (.int p0), .val (.int p1), .val (.long p2), .second, .val (.long p3), .second, .val (.ref a_GT), .val (.ref a_LT_EQ), .val (.int 1), .val (.int 0)] [(.long p3), (.long p2), (.int 0), (.ref a_LT_EQ)])) rfl (by rw [hml]; rfl) (argsL := [(.ref a_LT_EQ), (.int 0), (.long p2), (.long p3)]) (rest := []) (lenOf pd_4 rfl) rfl (by show 2 * 0 + _ ≤ _; exact Nat.le_of_eq rfl) (hb hby at_68) (fun _ _ => ⟨rfl, e4, (by decide : 0 + 0 ≤ _), (by decide : 0 + 0 ≤ _)⟩)
  dsimp only [Pt.U, Pt.locs, Pt.cells, Pt.slots] at X5 l5 y5 z5 st5 hQ5
  subst l5 y5 z5
  obtain ⟨rfl, Nq5, e5⟩ := hQ5
  have N5 := Fr.app N4 Nq5
  -- pc 78: com/example/floe/floe/OperationNegatePinLaw.holds
  obtain ⟨_, _, ⟨T6, L6, k6, n6⟩, -, X6, ⟨Lc6, hQ6, l6, y6, z6⟩, st6⟩ := Jvm.LawKit.callS X5 hx (y := M_5) hown (mvT hZ (tw_32 hw)) (mvT hZ (tw_33 hw)) (mvT hZ (tw_2 hw)) (mvT hZ (tw_34 hw)) (by decide) (backOf (W := 1) (rm5_76 l Z a0 hw [] a_GT p2 p3 a_IS_NULL a_NOT_NULL a_EQ a_NOT_EQ a_LT a_LT_EQ h0 n0 Z0 f6 (Ne.symm f7) f8 (Ne.symm f9) f13 f20 f15 f21 f17 f22 f5 f23 f2 f19) hZ (tw_34 hw) (tw_2 hw) (by decide) (by decide)) (g := (mkF m 78 #[.val (.int p0), .val (.int p1), .val (.long p2), .second, .val (.long p3), .second, .val (.ref a_GT), .val (.ref a_LT_EQ), .val (.int 1), .val (.int 0)] [(.long p3), (.long p2), (.int 0), (.ref a_GT), (.int 0)])) rfl (by rw [hml]; rfl) (argsL := [(.ref a_GT), (.int 0), (.long p2), (.long p3)]) (rest := [(.int 0)]) (lenOf pd_4 rfl) rfl (by show 2 * 0 + _ ≤ _; exact Nat.le_of_eq rfl) (hb hby at_78) (fun _ _ => ⟨rfl, e5, (by decide : 0 + 0 ≤ _), (by decide : 0 + 0 ≤ _)⟩)
  dsimp only [Pt.U, Pt.locs, Pt.cells, Pt.slots] at X6 l6 y6 z6 st6 hQ6
  subst l6 y6 z6
  obtain ⟨rfl, Nq6, e6⟩ := hQ6
  have N6 := Fr.app N5 Nq6
  obtain ⟨fs, hr, hrun, hended, hW, hsame⟩ := X6.leave (v := (some (.int 1))) (fun h => by rw [Bd.returns] at h; cases h)
  refine ⟨_, _, castTop (ef0_IIJJ m p0 p1 p2 p3) ?_, hrun, hended, _, _, rfl, ?_, ⟨_, rfl⟩, hW, hsame.mono (by decide) (by decide)⟩
  · show Steps p.tables e below (s₁.setTop (mkF m 0 #[.val (.int p0), .val (.int p1), .val (.long p2), .second, .val (.long p3), .second, .unset, .unset, .unset, .unset] [])) _
    refine XS.iloadN X0.here hx rfl (hb hby at_0) rfl ?_
    show Steps p.tables e below (s₁.setTop (mkF m 1 #[.val (.int p0), .val (.int p1), .val (.long p2), .second, .val (.long p3), .second, .unset, .unset, .unset, .unset] [(.int p0)])) _
    refine st1 _ ?_
    refine XS.astore X1.here hx rfl (hb hby at_4) rfl rfl (l' := #[.val (.int p0), .val (.int p1), .val (.long p2), .second, .val (.long p3), .second, .val (.ref a_GT), .unset, .unset, .unset]) rfl ?_
    refine XS.aload X1.here hx rfl (hb hby at_6) rfl rfl ?_
    show Steps p.tables e below (T1.setTop (mkF m 8 #[.val (.int p0), .val (.int p1), .val (.long p2), .second, .val (.long p3), .second, .val (.ref a_GT), .unset, .unset, .unset] [(.ref a_GT)])) _
    refine st2.trans ?_
    refine XS.astore X2.here hx rfl (hb hby at_11) rfl rfl (l' := #[.val (.int p0), .val (.int p1), .val (.long p2), .second, .val (.long p3), .second, .val (.ref a_GT), .val (.ref a_LT_EQ), .unset, .unset]) rfl ?_
    refine XS.aload X2.here hx rfl (hb hby at_13) rfl rfl ?_
    refine XS.ifnonnullYes X2.here hx rfl (pc0 := 15) (pc' := 20) rfl (hb hby at_15) rfl (by decide) (by decide) ?_
    refine XS.aload X2.here hx rfl (hb hby at_20) rfl rfl ?_
    show Steps p.tables e below (T2.setTop (mkF m 22 #[.val (.int p0), .val (.int p1), .val (.long p2), .second, .val (.long p3), .second, .val (.ref a_GT), .val (.ref a_LT_EQ), .unset, .unset] [(.ref a_GT)])) _
    refine st3.trans ?_
    refine XS.istore X3.here hx rfl (hb hby at_25) rfl (l' := #[.val (.int p0), .val (.int p1), .val (.long p2), .second, .val (.long p3), .second, .val (.ref a_GT), .val (.ref a_LT_EQ), .val (.int 1), .unset]) rfl ?_
    refine XS.iload X3.here hx rfl (hb hby at_27) rfl ?_
    refine XS.ifNo X3.here hx rfl (hb hby at_29) rfl (by decide) ?_
    refine XS.iconst X3.here hx rfl (hb hby at_32) ?_
    show Steps p.tables e below (T3.setTop (mkF m 33 #[.val (.int p0), .val (.int p1), .val (.long p2), .second, .val (.long p3), .second, .val (.ref a_GT), .val (.ref a_LT_EQ), .val (.int 1), .unset] [(.int 0)])) _
    refine XS.goto X3.here hx rfl (pc0 := 33) (pc' := 47) rfl (hb hby at_33) (by decide) (by decide) ?_
    refine XS.istore X3.here hx rfl (hb hby at_47) rfl (l' := #[.val (.int p0), .val (.int p1), .val (.long p2), .second, .val (.long p3), .second, .val (.ref a_GT), .val (.ref a_LT_EQ), .val (.int 1), .val (.int 0)]) rfl ?_
    refine XS.aload X3.here hx rfl (hb hby at_49) rfl rfl ?_
    show Steps p.tables e below (T3.setTop (mkF m 51 #[.val (.int p0), .val (.int p1), .val (.long p2), .second, .val (.long p3), .second, .val (.ref a_GT), .val (.ref a_LT_EQ), .val (.int 1), .val (.int 0)] [(.ref a_LT_EQ)])) _
    refine st4.trans ?_
    refine XS.iload X4.here hx rfl (hb hby at_54) rfl ?_
    refine XS.icmpYes X4.here hx rfl (pc0 := 56) (pc' := 61) rfl (hb hby at_56) rfl (by decide) (by decide) (by decide) ?_
    refine XS.aload X4.here hx rfl (hb hby at_61) rfl rfl ?_
    refine XS.iload X4.here hx rfl (hb hby at_63) rfl ?_
    show Steps p.tables e below (T4.setTop (mkF m 65 #[.val (.int p0), .val (.int p1), .val (.long p2), .second, .val (.long p3), .second, .val (.ref a_GT), .val (.ref a_LT_EQ), .val (.int 1), .val (.int 0)] [(.int 0), (.ref a_LT_EQ)])) _
    refine XS.lloadN X4.here hx rfl (hb hby at_65) rfl ?_
    refine XS.lload X4.here hx rfl (hb hby at_66) rfl ?_
    show Steps p.tables e below (T4.setTop (mkF m 68 #[.val (.int p0), .val (.int p1), .val (.long p2), .second, .val (.long p3), .second, .val (.ref a_GT), .val (.ref a_LT_EQ), .val (.int 1), .val (.int 0)] [(.long p3), (.long p2), (.int 0), (.ref a_LT_EQ)])) _
    refine st5 _ ?_
    refine XS.aload X5.here hx rfl (hb hby at_71) rfl rfl ?_
    refine XS.iload X5.here hx rfl (hb hby at_73) rfl ?_
    refine XS.lloadN X5.here hx rfl (hb hby at_75) rfl ?_
    refine XS.lload X5.here hx rfl (hb hby at_76) rfl ?_
    show Steps p.tables e below (T5.setTop (mkF m 78 #[.val (.int p0), .val (.int p1), .val (.long p2), .second, .val (.long p3), .second, .val (.ref a_GT), .val (.ref a_LT_EQ), .val (.int 1), .val (.int 0)] [(.long p3), (.long p2), (.int 0), (.ref a_GT), (.int 0)])) _
    refine st6 _ ?_
    refine XS.icmpNo X6.here hx rfl (hb hby at_81) rfl (by decide) ?_
    refine XS.iconst X6.here hx rfl (hb hby at_84) ?_
    refine XS.goto X6.here hx rfl (pc0 := 85) (pc' := 89) rfl (hb hby at_85) (by decide) (by decide) ?_
    show Steps p.tables e below (T6.setTop (mkF m 89 #[.val (.int p0), .val (.int p1), .val (.long p2), .second, .val (.long p3), .second, .val (.ref a_GT), .val (.ref a_LT_EQ), .val (.int 1), .val (.int 0)] [(.int 1)])) _
    exact retN X6 hx (t := .boolean) Bd.returns (by simp) (hb hby at_89) hr
  · show QT n0 _ T6.heap _
    rw [e6]
    exact ⟨rfl, N6⟩
theorem d1_49 : decode method_2_code 49 = .ok (.iload_n 1, 1) := by decide +kernel
theorem d1_50 : decode method_2_code 50 = .ok (.iconst 5, 1) := by decide +kernel
theorem d1_51 : decode method_2_code 51 = .ok (.if_icmp .ne 7, 3) := by decide +kernel
theorem d1_54 : decode method_2_code 54 = .ok (.getstatic 25, 3) := by decide +kernel
theorem d1_57 : decode method_2_code 57 = .ok (.areturn, 1) := by decide +kernel
set_option maxRecDepth 65536 in
set_option maxHeartbeats 40000000 in
theorem rm1_85 (l : Launch) (Z : State) (a0 : Array Value) (hw : ∀ d ∈ tables_1, d.before a0 Z = true) (ws : List Jvm.Cond) (p0 : Int32) (a_GT_EQ : Addr) (h0 : Heap) (n0 : Nat) (Z0 : n0 ≤ h0.size) (f1 : (p0 &&& (7 : Int32)) = (5 : Int32)) (f2 : S_5 Z h0 (.ref a_GT_EQ)) :
    MetFree l M_0 (head1 (Jvm.Cond.code M_0 method_2_code 2 (some (.object "com/example/floe/floe/Expression$Operation")) :: ws) R_0_0_0_0) (fun a U => a = #[(.int p0)] ∧ Z.Warmed39 U.vm ∧ U.heap = h0) (fun _ _ _ _ _ => True) (fun _ U o U' => ∃ v L, o = .returned v ∧ QP (some (.ref a_GT_EQ)) h0 n0 v U'.heap L ∧ FrameEnd U o U' L R_0_0_0_0.cells R_0_0_0_0.slots) := by
  refine MetFree.of_bodySF (plainFor_of_name pn_com_example_floe_floe_OperationNegatePinLaw) hisR ?_
  intro p e s m args below meth c s₁ Bd hml0 hP hK
  obtain ⟨rfl, hZ, hh⟩ := hP
  have hx := Bd.exec
  have hby := Bd.bytes
  have hml : c.maxLocals = 2 := hml0
  have hown : s.vm.findClass "com/example/floe/floe/OperationNegatePinLaw" = some m.cls := findClass_of_methodNamed Bd.named
  have hnm := (name_of_methodNamed Bd.named Bd.method).1
  have X0 : Stand p l e R_0_0_0_0 s m #[(.int p0)] below meth c s₁ [] 0 0 := Stand.of_body Bd
  have e0 : s₁.heap = h0 := by rw [← hh, Bd.state]; rfl
  have N0 := Fr.nil n0
  obtain ⟨T1, X1, e1, st1⟩ := getS2 X0 hx hZ hown (host := "") (Or.inl (tw_46 hw)) Via.refl e0 f2 (g := (mkF m 54 #[.val (.int p0), .val (.int 5)] [])) rfl (hb hby d1_54)
  obtain ⟨fs, hr, hrun, hended, hW, hsame⟩ := X1.leave (v := (some (.ref a_GT_EQ))) (fun h => by rw [Bd.returns] at h; cases h)
  refine ⟨_, _, castTop (ef1_I m p0) ?_, hrun, hended, _, _, rfl, ?_, ⟨_, rfl⟩, hW, hsame.mono (by decide) (by decide)⟩
  · show Steps p.tables e below (s₁.setTop (mkF m 0 #[.val (.int p0), .unset] [])) _
    refine XS.iloadN X0.here hx rfl (hb hby d1_0) rfl ?_
    refine XS.bipush X0.here hx rfl (hb hby d1_1) ?_
    show Steps p.tables e below (s₁.setTop (mkF m 3 #[.val (.int p0), .unset] [(.int 7), (.int p0)])) _
    refine XS.iand X0.here hx rfl (hb hby d1_3) rfl ?_
    show Steps p.tables e below (s₁.setTop (mkF m 4 #[.val (.int p0), .unset] [(.int (p0 &&& (7 : Int32)))])) _
    rw [f1]
    refine XS.istoreN X0.here hx rfl (hb hby d1_4) rfl (l' := #[.val (.int p0), .val (.int 5)]) rfl ?_
    refine XS.iloadN X0.here hx rfl (hb hby d1_5) rfl ?_
    refine XS.ifYes X0.here hx rfl (pc0 := 6) (pc' := 13) rfl (hb hby d1_6) rfl (by decide) (by decide) (by decide) ?_
    refine XS.iloadN X0.here hx rfl (hb hby d1_13) rfl ?_
    show Steps p.tables e below (s₁.setTop (mkF m 14 #[.val (.int p0), .val (.int 5)] [(.int 5)])) _
    refine XS.iconst X0.here hx rfl (hb hby d1_14) ?_
    refine XS.icmpYes X0.here hx rfl (pc0 := 15) (pc' := 22) rfl (hb hby d1_15) rfl (by decide) (by decide) (by decide) ?_
    refine XS.iloadN X0.here hx rfl (hb hby d1_22) rfl ?_
    refine XS.iconst X0.here hx rfl (hb hby d1_23) ?_
    refine XS.icmpYes X0.here hx rfl (pc0 := 24) (pc' := 31) rfl (hb hby d1_24) rfl (by decide) (by decide) (by decide) ?_
    show Steps p.tables e below (s₁.setTop (mkF m 31 #[.val (.int p0), .val (.int 5)] [])) _
    refine XS.iloadN X0.here hx rfl (hb hby d1_31) rfl ?_
    refine XS.iconst X0.here hx rfl (hb hby d1_32) ?_
    refine XS.icmpYes X0.here hx rfl (pc0 := 33) (pc' := 40) rfl (hb hby d1_33) rfl (by decide) (by decide) (by decide) ?_
    refine XS.iloadN X0.here hx rfl (hb hby d1_40) rfl ?_
    refine XS.iconst X0.here hx rfl (hb hby d1_41) ?_
    show Steps p.tables e below (s₁.setTop (mkF m 42 #[.val (.int p0), .val (.int 5)] [(.int 4), (.int 5)])) _
    refine XS.icmpYes X0.here hx rfl (pc0 := 42) (pc' := 49) rfl (hb hby d1_42) rfl (by decide) (by decide) (by decide) ?_
    refine XS.iloadN X0.here hx rfl (hb hby d1_49) rfl ?_
    refine XS.iconst X0.here hx rfl (hb hby d1_50) ?_
    refine XS.icmpNo X0.here hx rfl (hb hby d1_51) rfl (by decide) ?_
    show Steps p.tables e below (s₁.setTop (mkF m 54 #[.val (.int p0), .val (.int 5)] [])) _
    refine st1 _ ?_
    show Steps p.tables e below (T1.setTop (mkF m 57 #[.val (.int p0), .val (.int 5)] [(.ref a_GT_EQ)])) _
    jvm_step X1.here [X1.here.top, hx, (hb hby d1_57), X1.method', Bd.returns, Value.isRef, FieldType.isReference]
    first | (intro acts; rw [hr _ acts rfl rfl rfl]) | rw [hr _ _ rfl rfl rfl]
    exact Steps.refl _
  · show QP (some (.ref a_GT_EQ)) h0 n0 _ T1.heap _
    rw [e1]
    exact ⟨rfl, N0, rfl⟩
set_option maxRecDepth 65536 in
set_option maxHeartbeats 40000000 in
theorem rm3_86 (l : Launch) (Z : State) (a0 : Array Value) (hw : ∀ d ∈ tables_1, d.before a0 Z = true) (ws : List Jvm.Cond) (a_GT_EQ : Addr) (h0 : Heap) (n0 : Nat) (Z0 : n0 ≤ h0.size) (f1 : F_0 Z h0 a_GT_EQ (.int 5)) :
    MetFree l M_1 (head1 (Jvm.Cond.code M_1 jdk_37_method_2_code 1 (some .int) :: ws) R_0_0_0_0) (fun a U => a = #[(.ref a_GT_EQ)] ∧ Z.Warmed39 U.vm ∧ U.heap = h0) (fun _ _ _ _ _ => True) (fun _ U o U' => ∃ v L, o = .returned v ∧ QP (some (.int 5)) h0 n0 v U'.heap L ∧ FrameEnd U o U' L R_0_0_0_0.cells R_0_0_0_0.slots) := by
  refine MetFree.of_bodySF (plainFor_of_name pn_java_lang_Enum) hisR ?_
  intro p e s m args below meth c s₁ Bd hml0 hP hK
  obtain ⟨rfl, hZ, hh⟩ := hP
  have hx := Bd.exec
  have hby := Bd.bytes
  have hml : c.maxLocals = 1 := hml0
  have hown : s.vm.findClass "java/lang/Enum" = some m.cls := findClass_of_methodNamed Bd.named
  have hnm := (name_of_methodNamed Bd.named Bd.method).1
  have X0 : Stand p l e R_0_0_0_0 s m #[(.ref a_GT_EQ)] below meth c s₁ [] 0 0 := Stand.of_body Bd
  have e0 : s₁.heap = h0 := by rw [← hh, Bd.state]; rfl
  have N0 := Fr.nil n0
  obtain ⟨T1, X1, e1, st1⟩ := getF X0 hx hZ hown (host := "") (Or.inl (tw_19 hw)) Via.refl e0 f1 (g := (mkF m 1 #[.val (.ref a_GT_EQ)] [(.ref a_GT_EQ)])) rfl rfl (hb hby d3_1)
  obtain ⟨fs, hr, hrun, hended, hW, hsame⟩ := X1.leave (v := (some (.int 5))) (fun h => by rw [Bd.returns] at h; cases h)
  refine ⟨_, _, castTop (ef3_R m a_GT_EQ) ?_, hrun, hended, _, _, rfl, ?_, ⟨_, rfl⟩, hW, hsame.mono (by decide) (by decide)⟩
  · show Steps p.tables e below (s₁.setTop (mkF m 0 #[.val (.ref a_GT_EQ)] [])) _
    refine XS.aloadN X0.here hx rfl (hb hby d3_0) rfl rfl ?_
    show Steps p.tables e below (s₁.setTop (mkF m 1 #[.val (.ref a_GT_EQ)] [(.ref a_GT_EQ)])) _
    refine st1 _ ?_
    show Steps p.tables e below (T1.setTop (mkF m 4 #[.val (.ref a_GT_EQ)] [(.int 5)])) _
    exact retI X1 hx Bd.returns (hb hby d3_4) hr
  · show QP (some (.int 5)) h0 n0 _ T1.heap _
    rw [e1]
    exact ⟨rfl, N0, rfl⟩
theorem d2_92 : decode prog_13_method_7_code 92 = .ok (.getstatic 10, 3) := by decide +kernel
theorem tw_50 {a0 : Array Value} {Z : State} (hw : ∀ d ∈ tables_1, d.before a0 Z = true) : (Jvm.Cond.fieldLink "com/example/floe/floe/Expression$Operation" (10 : Nat) "com/example/floe/floe/Expression$Operation" "LT" "Lcom/example/floe/floe/Expression$Operation;").before a0 Z = true := hw _ (List.mem_of_getElem? (i := 50) rfl)
theorem d2_95 : decode prog_13_method_7_code 95 = .ok (.goto 12, 3) := by decide +kernel
set_option maxRecDepth 65536 in
set_option maxHeartbeats 40000000 in
theorem rm2_87 (l : Launch) (Z : State) (a0 : Array Value) (hw : ∀ d ∈ tables_1, d.before a0 Z = true) (ws : List Jvm.Cond) (a_GT_EQ : Addr) (a_LT : Addr) (h0 : Heap) (n0 : Nat) (Z0 : n0 ≤ h0.size) (f1 : F_0 Z h0 a_GT_EQ (.int 5)) (f2 : E_0 Z h0 a_GT_EQ) (f3 : S_4 Z h0 (.ref a_LT)) :
    MetFree l M_3 (head1 (Jvm.Cond.code M_3 prog_13_method_7_code 1 (some (.object "com/example/floe/floe/Expression$Operation")) :: ws) R_1_0_0_12) (fun a U => a = #[(.ref a_GT_EQ)] ∧ Z.Warmed39 U.vm ∧ U.heap = h0) (fun _ _ _ _ _ => True) (fun _ U o U' => ∃ v L, o = .returned v ∧ QP (some (.ref a_LT)) h0 n0 v U'.heap L ∧ FrameEnd U o U' L R_1_0_0_12.cells R_1_0_0_12.slots) := by
  refine MetFree.of_bodySF (plainFor_of_name pn_com_example_floe_floe_Expression_Operation) hisR ?_
  intro p e s m args below meth c s₁ Bd hml0 hP hK
  obtain ⟨rfl, hZ, hh⟩ := hP
  have hx := Bd.exec
  have hby := Bd.bytes
  have hml : c.maxLocals = 1 := hml0
  have hown : s.vm.findClass "com/example/floe/floe/Expression$Operation" = some m.cls := findClass_of_methodNamed Bd.named
  have hnm := (name_of_methodNamed Bd.named Bd.method).1
  have X0 : Stand p l e R_1_0_0_12 s m #[(.ref a_GT_EQ)] below meth c s₁ [] 0 0 := Stand.of_body Bd
  have e0 : s₁.heap = h0 := by rw [← hh, Bd.state]; rfl
  have N0 := Fr.nil n0
  -- pc 1: java/lang/Enum.ordinal
  obtain ⟨cq1, kq1, q1a, q1b, q1c⟩ := isOf hZ e0 f2
  obtain ⟨_, _, ⟨T1, L1, k1, n1⟩, -, X1, ⟨Lc1, hQ1, l1, y1, z1⟩, st1⟩ := X0.virtualBackUp hx (x := M_2) (y := M_1) (owner := "java/lang/Enum") hown (mvT hZ (tw_12 hw)) (mvT hZ (tw_13 hw)) (mvT hZ (tw_14 hw)) (by decide) (mvT hZ (tw_16 hw)) (mvT hZ (tw_15 hw)) (backOf (W := 0) (rm3_86 l Z a0 hw [] a_GT_EQ h0 n0 Z0 f1) hZ (tw_18 hw) (tw_17 hw) (by decide) (by decide)) q1a q1c (g := (mkF m 1 #[.val (.ref a_GT_EQ)] [(.ref a_GT_EQ)])) rfl (by rw [hml]; rfl) (Steps.refl _) (argsL := []) (rest := []) (lenOf pd_1 rfl) rfl (by show 2 * 0 + _ ≤ _; exact Nat.le_of_eq rfl) (hb hby d2_1) (fun _ _ => ⟨rfl, e0, (by decide : 0 + 0 ≤ _), (by decide : 0 + 0 ≤ _)⟩)
  dsimp only [Pt.U, Pt.locs, Pt.cells, Pt.slots] at X1 l1 y1 z1 st1 hQ1
  subst l1 y1 z1
  obtain ⟨rfl, Nq1, e1⟩ := hQ1
  have N1 := Fr.app N0 Nq1
  obtain ⟨T2, X2, e2, st2⟩ := getS2 X1 hx hZ hown (host := "") (Or.inl (tw_50 hw)) Via.refl e1 f3 (g := (mkF m 92 #[.val (.ref a_GT_EQ)] [])) rfl (hb hby d2_92)
  obtain ⟨fs, hr, hrun, hended, hW, hsame⟩ := X2.leave (v := (some (.ref a_LT))) (fun h => by rw [Bd.returns] at h; cases h)
  refine ⟨_, _, castTop (ef2_R m a_GT_EQ) ?_, hrun, hended, _, _, rfl, ?_, ⟨_, rfl⟩, hW, hsame.mono (by decide) (by decide)⟩
  · show Steps p.tables e below (s₁.setTop (mkF m 0 #[.val (.ref a_GT_EQ)] [])) _
    refine XS.aloadN X0.here hx rfl (hb hby d2_0) rfl rfl ?_
    show Steps p.tables e below (s₁.setTop (mkF m 1 #[.val (.ref a_GT_EQ)] [(.ref a_GT_EQ)])) _
    refine st1.trans ?_
    show Steps p.tables e below (T1.setTop (mkF m 4 #[.val (.ref a_GT_EQ)] [(.int 5)])) _
    refine XS.tswIn X1.here hx rfl (pc0 := 4) (pc' := 92) (o := 88) rfl (hb hby d2_4) rfl (by decide) (by decide) (by decide) (by decide) ?_
    show Steps p.tables e below (T1.setTop (mkF m 92 #[.val (.ref a_GT_EQ)] [])) _
    refine st2 _ ?_
    refine XS.goto X2.here hx rfl (pc0 := 95) (pc' := 107) rfl (hb hby d2_95) (by decide) (by decide) ?_
    show Steps p.tables e below (T2.setTop (mkF m 107 #[.val (.ref a_GT_EQ)] [(.ref a_LT)])) _
    jvm_step X2.here [X2.here.top, hx, (hb hby d2_107), X2.method', Bd.returns, Value.isRef, FieldType.isReference]
    first | (intro acts; rw [hr _ acts rfl rfl rfl]) | rw [hr _ _ rfl rfl rfl]
    exact Steps.refl _
  · show QP (some (.ref a_LT)) h0 n0 _ T2.heap _
    rw [e2]
    exact ⟨rfl, N1, rfl⟩
set_option maxRecDepth 65536 in
set_option maxHeartbeats 40000000 in
theorem rm0_88 (l : Launch) (Z : State) (a0 : Array Value) (hw : ∀ d ∈ tables_1, d.before a0 Z = true) (ws : List Jvm.Cond) (p0 : Int32) (p1 : Int32) (p2 : Int64) (p3 : Int64) (a_GT_EQ : Addr) (a_LT : Addr) (a_IS_NULL : Addr) (a_NOT_NULL : Addr) (a_EQ : Addr) (a_NOT_EQ : Addr) (a_LT_EQ : Addr) (a_GT : Addr) (h0 : Heap) (n0 : Nat) (Z0 : n0 ≤ h0.size) (f1 : (p0 &&& (7 : Int32)) = (5 : Int32)) (f2 : S_5 Z h0 (.ref a_GT_EQ)) (f3 : F_0 Z h0 a_GT_EQ (.int 5)) (f4 : E_0 Z h0 a_GT_EQ) (f5 : S_4 Z h0 (.ref a_LT)) (f6 : S_2 Z h0 (.ref a_IS_NULL)) (f7 : a_IS_NULL ≠ a_GT_EQ) (f8 : S_3 Z h0 (.ref a_NOT_NULL)) (f9 : a_NOT_NULL ≠ a_GT_EQ) (f10 : a_IS_NULL ≠ a_LT) (f11 : a_NOT_NULL ≠ a_LT) (f12 : E_0 Z h0 a_LT) (f13 : S_0 Z h0 (.ref a_EQ)) (f14 : a_EQ ≠ a_LT) (f15 : S_1 Z h0 (.ref a_NOT_EQ)) (f16 : a_NOT_EQ ≠ a_LT) (f17 : (lcmpW p2 p3) = (-1 : Int32)) (f18 : a_EQ ≠ a_GT_EQ) (f19 : a_NOT_EQ ≠ a_GT_EQ) (f20 : a_LT ≠ a_GT_EQ) (f21 : S_6 Z h0 (.ref a_LT_EQ)) (f22 : a_GT_EQ ≠ a_LT_EQ) (f23 : S_7 Z h0 (.ref a_GT)) (f24 : a_GT_EQ ≠ a_GT) :
    MetFree l x (head1 (Jvm.Cond.code x code maxLocals ret :: ws) room_1) (fun a U => a = #[(.int p0), (.int p1), (.long p2), (.long p3)] ∧ Z.Warmed39 U.vm ∧ U.heap = h0) (fun _ _ _ _ _ => True) (fun _ U o U' => ∃ v L, o = .returned v ∧ QT n0 v U'.heap L ∧ FrameEnd U o U' L room_1.cells room_1.slots) := by
  refine MetFree.of_bodySF (plainFor_of_name pn_com_example_floe_floe_OperationNegatePinLaw) hisR ?_
  intro p e s m args below meth c s₁ Bd hml0 hP hK
  obtain ⟨rfl, hZ, hh⟩ := hP
  have hx := Bd.exec
  have hby := Bd.bytes
  have hml : c.maxLocals = 10 := hml0
  have hown : s.vm.findClass "com/example/floe/floe/OperationNegatePinLaw" = some m.cls := findClass_of_methodNamed Bd.named
  have hnm := (name_of_methodNamed Bd.named Bd.method).1
  have X0 : Stand p l e room_1 s m #[(.int p0), (.int p1), (.long p2), (.long p3)] below meth c s₁ [] 0 0 := Stand.of_body Bd
  have e0 : s₁.heap = h0 := by rw [← hh, Bd.state]; rfl
  have N0 := Fr.nil n0
  -- pc 1: com/example/floe/floe/OperationNegatePinLaw.pick
  obtain ⟨_, _, ⟨T1, L1, k1, n1⟩, -, X1, ⟨Lc1, hQ1, l1, y1, z1⟩, st1⟩ := Jvm.LawKit.callS X0 hx (y := M_0) hown (mvT hZ (tw_0 hw)) (mvT hZ (tw_1 hw)) (mvT hZ (tw_2 hw)) (mvT hZ (tw_3 hw)) (by decide) (backOf (W := 0) (rm1_85 l Z a0 hw [] p0 a_GT_EQ h0 n0 Z0 f1 f2) hZ (tw_3 hw) (tw_2 hw) (by decide) (by decide)) (g := (mkF m 1 #[.val (.int p0), .val (.int p1), .val (.long p2), .second, .val (.long p3), .second, .unset, .unset, .unset, .unset] [(.int p0)])) rfl (by rw [hml]; rfl) (argsL := [(.int p0)]) (rest := []) (lenOf pd_0 rfl) rfl (by show 2 * 0 + _ ≤ _; exact Nat.le_of_eq rfl) (hb hby at_1) (fun _ _ => ⟨rfl, e0, (by decide : 0 + 0 ≤ _), (by decide : 0 + 0 ≤ _)⟩)
  dsimp only [Pt.U, Pt.locs, Pt.cells, Pt.slots] at X1 l1 y1 z1 st1 hQ1
  subst l1 y1 z1
  obtain ⟨rfl, Nq1, e1⟩ := hQ1
  have N1 := Fr.app N0 Nq1
  -- pc 8: com/example/floe/floe/Expression$Operation.negate
  obtain ⟨cq2, kq2, q2a, q2b, q2c⟩ := isOf hZ e1 f4
  obtain ⟨_, _, ⟨T2, L2, k2, n2⟩, -, X2, ⟨Lc2, hQ2, l2, y2, z2⟩, st2⟩ := X1.virtualBack hx (y := M_3) (z := M_3) hown (mvT hZ (tw_7 hw)) (mvT hZ (tw_8 hw)) (notFace_of_selects (args := #[]) (mvT hZ (tw_10 hw))) (mvT hZ (tw_10 hw)) (mvT hZ (tw_9 hw)) (by decide) (backOf (W := 0) (rm2_87 l Z a0 hw [] a_GT_EQ a_LT h0 n0 Z0 f3 f4 f5) hZ (tw_11 hw) (tw_5 hw) (by decide) (by decide)) q2a q2c (g := (mkF m 8 #[.val (.int p0), .val (.int p1), .val (.long p2), .second, .val (.long p3), .second, .val (.ref a_GT_EQ), .unset, .unset, .unset] [(.ref a_GT_EQ)])) rfl (by rw [hml]; rfl) (Steps.refl _) (argsL := []) (rest := []) (lenOf pd_2 rfl) rfl (by show 2 * 0 + _ ≤ _; exact Nat.le_of_eq rfl) (hb hby at_8) (fun _ _ => ⟨rfl, e1, (by decide : 0 + 0 ≤ _), (by decide : 0 + 0 ≤ _)⟩)
  dsimp only [Pt.U, Pt.locs, Pt.cells, Pt.slots] at X2 l2 y2 z2 st2 hQ2
  subst l2 y2 z2
  obtain ⟨rfl, Nq2, e2⟩ := hQ2
  have N2 := Fr.app N1 Nq2
  -- pc 22: com/example/floe/floe/Expression$Operation.compares
  obtain ⟨cq3, kq3, q3a, q3b, q3c⟩ := isOf hZ e2 f4
  obtain ⟨_, _, ⟨T3, L3, k3, n3⟩, -, X3, ⟨Lc3, hQ3, l3, y3, z3⟩, st3⟩ := X2.virtualBack hx (y := M_4) (z := M_4) hown (mvT hZ (tw_23 hw)) (mvT hZ (tw_24 hw)) (notFace_of_selects (args := #[]) (mvT hZ (tw_26 hw))) (mvT hZ (tw_26 hw)) (mvT hZ (tw_25 hw)) (by decide) (backOf (W := 0) (rm4_55 l Z a0 hw [] a_GT_EQ a_IS_NULL a_NOT_NULL h0 n0 Z0 f6 f7 f8 f9) hZ (tw_27 hw) (tw_5 hw) (by decide) (by decide)) q3a q3c (g := (mkF m 22 #[.val (.int p0), .val (.int p1), .val (.long p2), .second, .val (.long p3), .second, .val (.ref a_GT_EQ), .val (.ref a_LT), .unset, .unset] [(.ref a_GT_EQ)])) rfl (by rw [hml]; rfl) (Steps.refl _) (argsL := []) (rest := []) (lenOf pd_3 rfl) rfl (by show 2 * 0 + _ ≤ _; exact Nat.le_of_eq rfl) (hb hby at_22) (fun _ _ => ⟨rfl, e2, (by decide : 0 + 0 ≤ _), (by decide : 0 + 0 ≤ _)⟩)
  dsimp only [Pt.U, Pt.locs, Pt.cells, Pt.slots] at X3 l3 y3 z3 st3 hQ3
  subst l3 y3 z3
  obtain ⟨rfl, Nq3, e3⟩ := hQ3
  have N3 := Fr.app N2 Nq3
  -- pc 51: com/example/floe/floe/Expression$Operation.compares
  obtain ⟨cq4, kq4, q4a, q4b, q4c⟩ := isOf hZ e3 f12
  obtain ⟨_, _, ⟨T4, L4, k4, n4⟩, -, X4, ⟨Lc4, hQ4, l4, y4, z4⟩, st4⟩ := X3.virtualBack hx (y := M_4) (z := M_4) hown (mvT hZ (tw_23 hw)) (mvT hZ (tw_24 hw)) (notFace_of_selects (args := #[]) (mvT hZ (tw_26 hw))) (mvT hZ (tw_26 hw)) (mvT hZ (tw_25 hw)) (by decide) (backOf (W := 0) (rm4_54 l Z a0 hw [] a_LT a_IS_NULL a_NOT_NULL h0 n0 Z0 f6 f10 f8 f11) hZ (tw_27 hw) (tw_5 hw) (by decide) (by decide)) q4a q4c (g := (mkF m 51 #[.val (.int p0), .val (.int p1), .val (.long p2), .second, .val (.long p3), .second, .val (.ref a_GT_EQ), .val (.ref a_LT), .val (.int 1), .val (.int 0)] [(.ref a_LT)])) rfl (by rw [hml]; rfl) (Steps.refl _) (argsL := []) (rest := []) (lenOf pd_3 rfl) rfl (by show 2 * 0 + _ ≤ _; exact Nat.le_of_eq rfl) (hb hby at_51) (fun _ _ => ⟨rfl, e3, (by decide : 0 + 0 ≤ _), (by decide : 0 + 0 ≤ _)⟩)
  dsimp only [Pt.U, Pt.locs, Pt.cells, Pt.slots] at X4 l4 y4 z4 st4 hQ4
  subst l4 y4 z4
  obtain ⟨rfl, Nq4, e4⟩ := hQ4
  have N4 := Fr.app N3 Nq4
  -- pc 68: com/example/floe/floe/OperationNegatePinLaw.holds
  obtain ⟨_, _, ⟨T5, L5, k5, n5⟩, -, X5, ⟨Lc5, hQ5, l5, y5, z5⟩, st5⟩ := Jvm.LawKit.callS X4 hx (y := M_5) hown (mvT hZ (tw_32 hw)) (mvT hZ (tw_33 hw)) (mvT hZ (tw_2 hw)) (mvT hZ (tw_34 hw)) (by decide) (backOf (W := 0) (rm5_57 l Z a0 hw [] a_LT p2 p3 a_IS_NULL a_NOT_NULL a_EQ a_NOT_EQ h0 n0 Z0 f6 (Ne.symm f10) f8 (Ne.symm f11) f13 f14 f15 f16 f5 f17) hZ (tw_34 hw) (tw_2 hw) (by decide) (by decide)) (g := (mkF m 68 #[.val (.int p0), .val (.int p1), .val (.long p2), .second, .val (.long p3), .second, .val (.ref a_GT_EQ), .val (.ref a_LT), .val (.int 1), .val (.int 0)] [(.long p3), (.long p2), (.int 0), (.ref a_LT)])) rfl (by rw [hml]; rfl) (argsL := [(.ref a_LT), (.int 0), (.long p2), (.long p3)]) (rest := []) (lenOf pd_4 rfl) rfl (by show 2 * 0 + _ ≤ _; exact Nat.le_of_eq rfl) (hb hby at_68) (fun _ _ => ⟨rfl, e4, (by decide : 0 + 0 ≤ _), (by decide : 0 + 0 ≤ _)⟩)
  dsimp only [Pt.U, Pt.locs, Pt.cells, Pt.slots] at X5 l5 y5 z5 st5 hQ5
  subst l5 y5 z5
  obtain ⟨rfl, Nq5, e5⟩ := hQ5
  have N5 := Fr.app N4 Nq5
  -- pc 78: com/example/floe/floe/OperationNegatePinLaw.holds
  obtain ⟨_, _, ⟨T6, L6, k6, n6⟩, -, X6, ⟨Lc6, hQ6, l6, y6, z6⟩, st6⟩ := Jvm.LawKit.callS X5 hx (y := M_5) hown (mvT hZ (tw_32 hw)) (mvT hZ (tw_33 hw)) (mvT hZ (tw_2 hw)) (mvT hZ (tw_34 hw)) (by decide) (backOf (W := 1) (rm5_56 l Z a0 hw [] a_GT_EQ p2 p3 a_IS_NULL a_NOT_NULL a_EQ a_NOT_EQ a_LT a_LT_EQ a_GT h0 n0 Z0 f6 (Ne.symm f7) f8 (Ne.symm f9) f13 f18 f15 f19 f5 f20 f21 f22 f23 f24 f2 f17) hZ (tw_34 hw) (tw_2 hw) (by decide) (by decide)) (g := (mkF m 78 #[.val (.int p0), .val (.int p1), .val (.long p2), .second, .val (.long p3), .second, .val (.ref a_GT_EQ), .val (.ref a_LT), .val (.int 1), .val (.int 0)] [(.long p3), (.long p2), (.int 0), (.ref a_GT_EQ), (.int 1)])) rfl (by rw [hml]; rfl) (argsL := [(.ref a_GT_EQ), (.int 0), (.long p2), (.long p3)]) (rest := [(.int 1)]) (lenOf pd_4 rfl) rfl (by show 2 * 0 + _ ≤ _; exact Nat.le_of_eq rfl) (hb hby at_78) (fun _ _ => ⟨rfl, e5, (by decide : 0 + 0 ≤ _), (by decide : 0 + 0 ≤ _)⟩)
  dsimp only [Pt.U, Pt.locs, Pt.cells, Pt.slots] at X6 l6 y6 z6 st6 hQ6
  subst l6 y6 z6
  obtain ⟨rfl, Nq6, e6⟩ := hQ6
  have N6 := Fr.app N5 Nq6
  obtain ⟨fs, hr, hrun, hended, hW, hsame⟩ := X6.leave (v := (some (.int 1))) (fun h => by rw [Bd.returns] at h; cases h)
  refine ⟨_, _, castTop (ef0_IIJJ m p0 p1 p2 p3) ?_, hrun, hended, _, _, rfl, ?_, ⟨_, rfl⟩, hW, hsame.mono (by decide) (by decide)⟩
  · show Steps p.tables e below (s₁.setTop (mkF m 0 #[.val (.int p0), .val (.int p1), .val (.long p2), .second, .val (.long p3), .second, .unset, .unset, .unset, .unset] [])) _
    refine XS.iloadN X0.here hx rfl (hb hby at_0) rfl ?_
    show Steps p.tables e below (s₁.setTop (mkF m 1 #[.val (.int p0), .val (.int p1), .val (.long p2), .second, .val (.long p3), .second, .unset, .unset, .unset, .unset] [(.int p0)])) _
    refine st1 _ ?_
    refine XS.astore X1.here hx rfl (hb hby at_4) rfl rfl (l' := #[.val (.int p0), .val (.int p1), .val (.long p2), .second, .val (.long p3), .second, .val (.ref a_GT_EQ), .unset, .unset, .unset]) rfl ?_
    refine XS.aload X1.here hx rfl (hb hby at_6) rfl rfl ?_
    show Steps p.tables e below (T1.setTop (mkF m 8 #[.val (.int p0), .val (.int p1), .val (.long p2), .second, .val (.long p3), .second, .val (.ref a_GT_EQ), .unset, .unset, .unset] [(.ref a_GT_EQ)])) _
    refine st2.trans ?_
    refine XS.astore X2.here hx rfl (hb hby at_11) rfl rfl (l' := #[.val (.int p0), .val (.int p1), .val (.long p2), .second, .val (.long p3), .second, .val (.ref a_GT_EQ), .val (.ref a_LT), .unset, .unset]) rfl ?_
    refine XS.aload X2.here hx rfl (hb hby at_13) rfl rfl ?_
    refine XS.ifnonnullYes X2.here hx rfl (pc0 := 15) (pc' := 20) rfl (hb hby at_15) rfl (by decide) (by decide) ?_
    refine XS.aload X2.here hx rfl (hb hby at_20) rfl rfl ?_
    show Steps p.tables e below (T2.setTop (mkF m 22 #[.val (.int p0), .val (.int p1), .val (.long p2), .second, .val (.long p3), .second, .val (.ref a_GT_EQ), .val (.ref a_LT), .unset, .unset] [(.ref a_GT_EQ)])) _
    refine st3.trans ?_
    refine XS.istore X3.here hx rfl (hb hby at_25) rfl (l' := #[.val (.int p0), .val (.int p1), .val (.long p2), .second, .val (.long p3), .second, .val (.ref a_GT_EQ), .val (.ref a_LT), .val (.int 1), .unset]) rfl ?_
    refine XS.iload X3.here hx rfl (hb hby at_27) rfl ?_
    refine XS.ifNo X3.here hx rfl (hb hby at_29) rfl (by decide) ?_
    refine XS.iconst X3.here hx rfl (hb hby at_32) ?_
    show Steps p.tables e below (T3.setTop (mkF m 33 #[.val (.int p0), .val (.int p1), .val (.long p2), .second, .val (.long p3), .second, .val (.ref a_GT_EQ), .val (.ref a_LT), .val (.int 1), .unset] [(.int 0)])) _
    refine XS.goto X3.here hx rfl (pc0 := 33) (pc' := 47) rfl (hb hby at_33) (by decide) (by decide) ?_
    refine XS.istore X3.here hx rfl (hb hby at_47) rfl (l' := #[.val (.int p0), .val (.int p1), .val (.long p2), .second, .val (.long p3), .second, .val (.ref a_GT_EQ), .val (.ref a_LT), .val (.int 1), .val (.int 0)]) rfl ?_
    refine XS.aload X3.here hx rfl (hb hby at_49) rfl rfl ?_
    show Steps p.tables e below (T3.setTop (mkF m 51 #[.val (.int p0), .val (.int p1), .val (.long p2), .second, .val (.long p3), .second, .val (.ref a_GT_EQ), .val (.ref a_LT), .val (.int 1), .val (.int 0)] [(.ref a_LT)])) _
    refine st4.trans ?_
    refine XS.iload X4.here hx rfl (hb hby at_54) rfl ?_
    refine XS.icmpYes X4.here hx rfl (pc0 := 56) (pc' := 61) rfl (hb hby at_56) rfl (by decide) (by decide) (by decide) ?_
    refine XS.aload X4.here hx rfl (hb hby at_61) rfl rfl ?_
    refine XS.iload X4.here hx rfl (hb hby at_63) rfl ?_
    show Steps p.tables e below (T4.setTop (mkF m 65 #[.val (.int p0), .val (.int p1), .val (.long p2), .second, .val (.long p3), .second, .val (.ref a_GT_EQ), .val (.ref a_LT), .val (.int 1), .val (.int 0)] [(.int 0), (.ref a_LT)])) _
    refine XS.lloadN X4.here hx rfl (hb hby at_65) rfl ?_
    refine XS.lload X4.here hx rfl (hb hby at_66) rfl ?_
    show Steps p.tables e below (T4.setTop (mkF m 68 #[.val (.int p0), .val (.int p1), .val (.long p2), .second, .val (.long p3), .second, .val (.ref a_GT_EQ), .val (.ref a_LT), .val (.int 1), .val (.int 0)] [(.long p3), (.long p2), (.int 0), (.ref a_LT)])) _
    refine st5 _ ?_
    refine XS.aload X5.here hx rfl (hb hby at_71) rfl rfl ?_
    refine XS.iload X5.here hx rfl (hb hby at_73) rfl ?_
    refine XS.lloadN X5.here hx rfl (hb hby at_75) rfl ?_
    refine XS.lload X5.here hx rfl (hb hby at_76) rfl ?_
    show Steps p.tables e below (T5.setTop (mkF m 78 #[.val (.int p0), .val (.int p1), .val (.long p2), .second, .val (.long p3), .second, .val (.ref a_GT_EQ), .val (.ref a_LT), .val (.int 1), .val (.int 0)] [(.long p3), (.long p2), (.int 0), (.ref a_GT_EQ), (.int 1)])) _
    refine st6 _ ?_
    refine XS.icmpNo X6.here hx rfl (hb hby at_81) rfl (by decide) ?_
    refine XS.iconst X6.here hx rfl (hb hby at_84) ?_
    refine XS.goto X6.here hx rfl (pc0 := 85) (pc' := 89) rfl (hb hby at_85) (by decide) (by decide) ?_
    show Steps p.tables e below (T6.setTop (mkF m 89 #[.val (.int p0), .val (.int p1), .val (.long p2), .second, .val (.long p3), .second, .val (.ref a_GT_EQ), .val (.ref a_LT), .val (.int 1), .val (.int 0)] [(.int 1)])) _
    exact retN X6 hx (t := .boolean) Bd.returns (by simp) (hb hby at_89) hr
  · show QT n0 _ T6.heap _
    rw [e6]
    exact ⟨rfl, N6⟩
set_option maxRecDepth 65536 in
set_option maxHeartbeats 40000000 in
theorem rm0_89 (l : Launch) (Z : State) (a0 : Array Value) (hw : ∀ d ∈ tables_1, d.before a0 Z = true) (ws : List Jvm.Cond) (p0 : Int32) (p1 : Int32) (p2 : Int64) (p3 : Int64) (a_GT_EQ : Addr) (a_LT : Addr) (a_IS_NULL : Addr) (a_NOT_NULL : Addr) (a_EQ : Addr) (a_NOT_EQ : Addr) (a_LT_EQ : Addr) (a_GT : Addr) (h0 : Heap) (n0 : Nat) (Z0 : n0 ≤ h0.size) (f1 : (p0 &&& (7 : Int32)) = (5 : Int32)) (f2 : S_5 Z h0 (.ref a_GT_EQ)) (f3 : F_0 Z h0 a_GT_EQ (.int 5)) (f4 : E_0 Z h0 a_GT_EQ) (f5 : S_4 Z h0 (.ref a_LT)) (f6 : S_2 Z h0 (.ref a_IS_NULL)) (f7 : a_IS_NULL ≠ a_GT_EQ) (f8 : S_3 Z h0 (.ref a_NOT_NULL)) (f9 : a_NOT_NULL ≠ a_GT_EQ) (f10 : a_IS_NULL ≠ a_LT) (f11 : a_NOT_NULL ≠ a_LT) (f12 : E_0 Z h0 a_LT) (f13 : S_0 Z h0 (.ref a_EQ)) (f14 : a_EQ ≠ a_LT) (f15 : S_1 Z h0 (.ref a_NOT_EQ)) (f16 : a_NOT_EQ ≠ a_LT) (f17 : (lcmpW p2 p3) = (0 : Int32)) (f18 : a_EQ ≠ a_GT_EQ) (f19 : a_NOT_EQ ≠ a_GT_EQ) (f20 : a_LT ≠ a_GT_EQ) (f21 : S_6 Z h0 (.ref a_LT_EQ)) (f22 : a_GT_EQ ≠ a_LT_EQ) (f23 : S_7 Z h0 (.ref a_GT)) (f24 : a_GT_EQ ≠ a_GT) :
    MetFree l x (head1 (Jvm.Cond.code x code maxLocals ret :: ws) room_1) (fun a U => a = #[(.int p0), (.int p1), (.long p2), (.long p3)] ∧ Z.Warmed39 U.vm ∧ U.heap = h0) (fun _ _ _ _ _ => True) (fun _ U o U' => ∃ v L, o = .returned v ∧ QT n0 v U'.heap L ∧ FrameEnd U o U' L room_1.cells room_1.slots) := by
  refine MetFree.of_bodySF (plainFor_of_name pn_com_example_floe_floe_OperationNegatePinLaw) hisR ?_
  intro p e s m args below meth c s₁ Bd hml0 hP hK
  obtain ⟨rfl, hZ, hh⟩ := hP
  have hx := Bd.exec
  have hby := Bd.bytes
  have hml : c.maxLocals = 10 := hml0
  have hown : s.vm.findClass "com/example/floe/floe/OperationNegatePinLaw" = some m.cls := findClass_of_methodNamed Bd.named
  have hnm := (name_of_methodNamed Bd.named Bd.method).1
  have X0 : Stand p l e room_1 s m #[(.int p0), (.int p1), (.long p2), (.long p3)] below meth c s₁ [] 0 0 := Stand.of_body Bd
  have e0 : s₁.heap = h0 := by rw [← hh, Bd.state]; rfl
  have N0 := Fr.nil n0
  -- pc 1: com/example/floe/floe/OperationNegatePinLaw.pick
  obtain ⟨_, _, ⟨T1, L1, k1, n1⟩, -, X1, ⟨Lc1, hQ1, l1, y1, z1⟩, st1⟩ := Jvm.LawKit.callS X0 hx (y := M_0) hown (mvT hZ (tw_0 hw)) (mvT hZ (tw_1 hw)) (mvT hZ (tw_2 hw)) (mvT hZ (tw_3 hw)) (by decide) (backOf (W := 0) (rm1_85 l Z a0 hw [] p0 a_GT_EQ h0 n0 Z0 f1 f2) hZ (tw_3 hw) (tw_2 hw) (by decide) (by decide)) (g := (mkF m 1 #[.val (.int p0), .val (.int p1), .val (.long p2), .second, .val (.long p3), .second, .unset, .unset, .unset, .unset] [(.int p0)])) rfl (by rw [hml]; rfl) (argsL := [(.int p0)]) (rest := []) (lenOf pd_0 rfl) rfl (by show 2 * 0 + _ ≤ _; exact Nat.le_of_eq rfl) (hb hby at_1) (fun _ _ => ⟨rfl, e0, (by decide : 0 + 0 ≤ _), (by decide : 0 + 0 ≤ _)⟩)
  dsimp only [Pt.U, Pt.locs, Pt.cells, Pt.slots] at X1 l1 y1 z1 st1 hQ1
  subst l1 y1 z1
  obtain ⟨rfl, Nq1, e1⟩ := hQ1
  have N1 := Fr.app N0 Nq1
  -- pc 8: com/example/floe/floe/Expression$Operation.negate
  obtain ⟨cq2, kq2, q2a, q2b, q2c⟩ := isOf hZ e1 f4
  obtain ⟨_, _, ⟨T2, L2, k2, n2⟩, -, X2, ⟨Lc2, hQ2, l2, y2, z2⟩, st2⟩ := X1.virtualBack hx (y := M_3) (z := M_3) hown (mvT hZ (tw_7 hw)) (mvT hZ (tw_8 hw)) (notFace_of_selects (args := #[]) (mvT hZ (tw_10 hw))) (mvT hZ (tw_10 hw)) (mvT hZ (tw_9 hw)) (by decide) (backOf (W := 0) (rm2_87 l Z a0 hw [] a_GT_EQ a_LT h0 n0 Z0 f3 f4 f5) hZ (tw_11 hw) (tw_5 hw) (by decide) (by decide)) q2a q2c (g := (mkF m 8 #[.val (.int p0), .val (.int p1), .val (.long p2), .second, .val (.long p3), .second, .val (.ref a_GT_EQ), .unset, .unset, .unset] [(.ref a_GT_EQ)])) rfl (by rw [hml]; rfl) (Steps.refl _) (argsL := []) (rest := []) (lenOf pd_2 rfl) rfl (by show 2 * 0 + _ ≤ _; exact Nat.le_of_eq rfl) (hb hby at_8) (fun _ _ => ⟨rfl, e1, (by decide : 0 + 0 ≤ _), (by decide : 0 + 0 ≤ _)⟩)
  dsimp only [Pt.U, Pt.locs, Pt.cells, Pt.slots] at X2 l2 y2 z2 st2 hQ2
  subst l2 y2 z2
  obtain ⟨rfl, Nq2, e2⟩ := hQ2
  have N2 := Fr.app N1 Nq2
  -- pc 22: com/example/floe/floe/Expression$Operation.compares
  obtain ⟨cq3, kq3, q3a, q3b, q3c⟩ := isOf hZ e2 f4
  obtain ⟨_, _, ⟨T3, L3, k3, n3⟩, -, X3, ⟨Lc3, hQ3, l3, y3, z3⟩, st3⟩ := X2.virtualBack hx (y := M_4) (z := M_4) hown (mvT hZ (tw_23 hw)) (mvT hZ (tw_24 hw)) (notFace_of_selects (args := #[]) (mvT hZ (tw_26 hw))) (mvT hZ (tw_26 hw)) (mvT hZ (tw_25 hw)) (by decide) (backOf (W := 0) (rm4_55 l Z a0 hw [] a_GT_EQ a_IS_NULL a_NOT_NULL h0 n0 Z0 f6 f7 f8 f9) hZ (tw_27 hw) (tw_5 hw) (by decide) (by decide)) q3a q3c (g := (mkF m 22 #[.val (.int p0), .val (.int p1), .val (.long p2), .second, .val (.long p3), .second, .val (.ref a_GT_EQ), .val (.ref a_LT), .unset, .unset] [(.ref a_GT_EQ)])) rfl (by rw [hml]; rfl) (Steps.refl _) (argsL := []) (rest := []) (lenOf pd_3 rfl) rfl (by show 2 * 0 + _ ≤ _; exact Nat.le_of_eq rfl) (hb hby at_22) (fun _ _ => ⟨rfl, e2, (by decide : 0 + 0 ≤ _), (by decide : 0 + 0 ≤ _)⟩)
  dsimp only [Pt.U, Pt.locs, Pt.cells, Pt.slots] at X3 l3 y3 z3 st3 hQ3
  subst l3 y3 z3
  obtain ⟨rfl, Nq3, e3⟩ := hQ3
  have N3 := Fr.app N2 Nq3
  -- pc 51: com/example/floe/floe/Expression$Operation.compares
  obtain ⟨cq4, kq4, q4a, q4b, q4c⟩ := isOf hZ e3 f12
  obtain ⟨_, _, ⟨T4, L4, k4, n4⟩, -, X4, ⟨Lc4, hQ4, l4, y4, z4⟩, st4⟩ := X3.virtualBack hx (y := M_4) (z := M_4) hown (mvT hZ (tw_23 hw)) (mvT hZ (tw_24 hw)) (notFace_of_selects (args := #[]) (mvT hZ (tw_26 hw))) (mvT hZ (tw_26 hw)) (mvT hZ (tw_25 hw)) (by decide) (backOf (W := 0) (rm4_54 l Z a0 hw [] a_LT a_IS_NULL a_NOT_NULL h0 n0 Z0 f6 f10 f8 f11) hZ (tw_27 hw) (tw_5 hw) (by decide) (by decide)) q4a q4c (g := (mkF m 51 #[.val (.int p0), .val (.int p1), .val (.long p2), .second, .val (.long p3), .second, .val (.ref a_GT_EQ), .val (.ref a_LT), .val (.int 1), .val (.int 0)] [(.ref a_LT)])) rfl (by rw [hml]; rfl) (Steps.refl _) (argsL := []) (rest := []) (lenOf pd_3 rfl) rfl (by show 2 * 0 + _ ≤ _; exact Nat.le_of_eq rfl) (hb hby at_51) (fun _ _ => ⟨rfl, e3, (by decide : 0 + 0 ≤ _), (by decide : 0 + 0 ≤ _)⟩)
  dsimp only [Pt.U, Pt.locs, Pt.cells, Pt.slots] at X4 l4 y4 z4 st4 hQ4
  subst l4 y4 z4
  obtain ⟨rfl, Nq4, e4⟩ := hQ4
  have N4 := Fr.app N3 Nq4
  -- pc 68: com/example/floe/floe/OperationNegatePinLaw.holds
  obtain ⟨_, _, ⟨T5, L5, k5, n5⟩, -, X5, ⟨Lc5, hQ5, l5, y5, z5⟩, st5⟩ := Jvm.LawKit.callS X4 hx (y := M_5) hown (mvT hZ (tw_32 hw)) (mvT hZ (tw_33 hw)) (mvT hZ (tw_2 hw)) (mvT hZ (tw_34 hw)) (by decide) (backOf (W := 0) (rm5_60 l Z a0 hw [] a_LT p2 p3 a_IS_NULL a_NOT_NULL a_EQ a_NOT_EQ h0 n0 Z0 f6 (Ne.symm f10) f8 (Ne.symm f11) f13 f14 f15 f16 f5 f17) hZ (tw_34 hw) (tw_2 hw) (by decide) (by decide)) (g := (mkF m 68 #[.val (.int p0), .val (.int p1), .val (.long p2), .second, .val (.long p3), .second, .val (.ref a_GT_EQ), .val (.ref a_LT), .val (.int 1), .val (.int 0)] [(.long p3), (.long p2), (.int 0), (.ref a_LT)])) rfl (by rw [hml]; rfl) (argsL := [(.ref a_LT), (.int 0), (.long p2), (.long p3)]) (rest := []) (lenOf pd_4 rfl) rfl (by show 2 * 0 + _ ≤ _; exact Nat.le_of_eq rfl) (hb hby at_68) (fun _ _ => ⟨rfl, e4, (by decide : 0 + 0 ≤ _), (by decide : 0 + 0 ≤ _)⟩)
  dsimp only [Pt.U, Pt.locs, Pt.cells, Pt.slots] at X5 l5 y5 z5 st5 hQ5
  subst l5 y5 z5
  obtain ⟨rfl, Nq5, e5⟩ := hQ5
  have N5 := Fr.app N4 Nq5
  -- pc 78: com/example/floe/floe/OperationNegatePinLaw.holds
  obtain ⟨_, _, ⟨T6, L6, k6, n6⟩, -, X6, ⟨Lc6, hQ6, l6, y6, z6⟩, st6⟩ := Jvm.LawKit.callS X5 hx (y := M_5) hown (mvT hZ (tw_32 hw)) (mvT hZ (tw_33 hw)) (mvT hZ (tw_2 hw)) (mvT hZ (tw_34 hw)) (by decide) (backOf (W := 1) (rm5_59 l Z a0 hw [] a_GT_EQ p2 p3 a_IS_NULL a_NOT_NULL a_EQ a_NOT_EQ a_LT a_LT_EQ a_GT h0 n0 Z0 f6 (Ne.symm f7) f8 (Ne.symm f9) f13 f18 f15 f19 f5 f20 f21 f22 f23 f24 f2 f17) hZ (tw_34 hw) (tw_2 hw) (by decide) (by decide)) (g := (mkF m 78 #[.val (.int p0), .val (.int p1), .val (.long p2), .second, .val (.long p3), .second, .val (.ref a_GT_EQ), .val (.ref a_LT), .val (.int 1), .val (.int 0)] [(.long p3), (.long p2), (.int 0), (.ref a_GT_EQ), (.int 0)])) rfl (by rw [hml]; rfl) (argsL := [(.ref a_GT_EQ), (.int 0), (.long p2), (.long p3)]) (rest := [(.int 0)]) (lenOf pd_4 rfl) rfl (by show 2 * 0 + _ ≤ _; exact Nat.le_of_eq rfl) (hb hby at_78) (fun _ _ => ⟨rfl, e5, (by decide : 0 + 0 ≤ _), (by decide : 0 + 0 ≤ _)⟩)
  dsimp only [Pt.U, Pt.locs, Pt.cells, Pt.slots] at X6 l6 y6 z6 st6 hQ6
  subst l6 y6 z6
  obtain ⟨rfl, Nq6, e6⟩ := hQ6
  have N6 := Fr.app N5 Nq6
  obtain ⟨fs, hr, hrun, hended, hW, hsame⟩ := X6.leave (v := (some (.int 1))) (fun h => by rw [Bd.returns] at h; cases h)
  refine ⟨_, _, castTop (ef0_IIJJ m p0 p1 p2 p3) ?_, hrun, hended, _, _, rfl, ?_, ⟨_, rfl⟩, hW, hsame.mono (by decide) (by decide)⟩
  · show Steps p.tables e below (s₁.setTop (mkF m 0 #[.val (.int p0), .val (.int p1), .val (.long p2), .second, .val (.long p3), .second, .unset, .unset, .unset, .unset] [])) _
    refine XS.iloadN X0.here hx rfl (hb hby at_0) rfl ?_
    show Steps p.tables e below (s₁.setTop (mkF m 1 #[.val (.int p0), .val (.int p1), .val (.long p2), .second, .val (.long p3), .second, .unset, .unset, .unset, .unset] [(.int p0)])) _
    refine st1 _ ?_
    refine XS.astore X1.here hx rfl (hb hby at_4) rfl rfl (l' := #[.val (.int p0), .val (.int p1), .val (.long p2), .second, .val (.long p3), .second, .val (.ref a_GT_EQ), .unset, .unset, .unset]) rfl ?_
    refine XS.aload X1.here hx rfl (hb hby at_6) rfl rfl ?_
    show Steps p.tables e below (T1.setTop (mkF m 8 #[.val (.int p0), .val (.int p1), .val (.long p2), .second, .val (.long p3), .second, .val (.ref a_GT_EQ), .unset, .unset, .unset] [(.ref a_GT_EQ)])) _
    refine st2.trans ?_
    refine XS.astore X2.here hx rfl (hb hby at_11) rfl rfl (l' := #[.val (.int p0), .val (.int p1), .val (.long p2), .second, .val (.long p3), .second, .val (.ref a_GT_EQ), .val (.ref a_LT), .unset, .unset]) rfl ?_
    refine XS.aload X2.here hx rfl (hb hby at_13) rfl rfl ?_
    refine XS.ifnonnullYes X2.here hx rfl (pc0 := 15) (pc' := 20) rfl (hb hby at_15) rfl (by decide) (by decide) ?_
    refine XS.aload X2.here hx rfl (hb hby at_20) rfl rfl ?_
    show Steps p.tables e below (T2.setTop (mkF m 22 #[.val (.int p0), .val (.int p1), .val (.long p2), .second, .val (.long p3), .second, .val (.ref a_GT_EQ), .val (.ref a_LT), .unset, .unset] [(.ref a_GT_EQ)])) _
    refine st3.trans ?_
    refine XS.istore X3.here hx rfl (hb hby at_25) rfl (l' := #[.val (.int p0), .val (.int p1), .val (.long p2), .second, .val (.long p3), .second, .val (.ref a_GT_EQ), .val (.ref a_LT), .val (.int 1), .unset]) rfl ?_
    refine XS.iload X3.here hx rfl (hb hby at_27) rfl ?_
    refine XS.ifNo X3.here hx rfl (hb hby at_29) rfl (by decide) ?_
    refine XS.iconst X3.here hx rfl (hb hby at_32) ?_
    show Steps p.tables e below (T3.setTop (mkF m 33 #[.val (.int p0), .val (.int p1), .val (.long p2), .second, .val (.long p3), .second, .val (.ref a_GT_EQ), .val (.ref a_LT), .val (.int 1), .unset] [(.int 0)])) _
    refine XS.goto X3.here hx rfl (pc0 := 33) (pc' := 47) rfl (hb hby at_33) (by decide) (by decide) ?_
    refine XS.istore X3.here hx rfl (hb hby at_47) rfl (l' := #[.val (.int p0), .val (.int p1), .val (.long p2), .second, .val (.long p3), .second, .val (.ref a_GT_EQ), .val (.ref a_LT), .val (.int 1), .val (.int 0)]) rfl ?_
    refine XS.aload X3.here hx rfl (hb hby at_49) rfl rfl ?_
    show Steps p.tables e below (T3.setTop (mkF m 51 #[.val (.int p0), .val (.int p1), .val (.long p2), .second, .val (.long p3), .second, .val (.ref a_GT_EQ), .val (.ref a_LT), .val (.int 1), .val (.int 0)] [(.ref a_LT)])) _
    refine st4.trans ?_
    refine XS.iload X4.here hx rfl (hb hby at_54) rfl ?_
    refine XS.icmpYes X4.here hx rfl (pc0 := 56) (pc' := 61) rfl (hb hby at_56) rfl (by decide) (by decide) (by decide) ?_
    refine XS.aload X4.here hx rfl (hb hby at_61) rfl rfl ?_
    refine XS.iload X4.here hx rfl (hb hby at_63) rfl ?_
    show Steps p.tables e below (T4.setTop (mkF m 65 #[.val (.int p0), .val (.int p1), .val (.long p2), .second, .val (.long p3), .second, .val (.ref a_GT_EQ), .val (.ref a_LT), .val (.int 1), .val (.int 0)] [(.int 0), (.ref a_LT)])) _
    refine XS.lloadN X4.here hx rfl (hb hby at_65) rfl ?_
    refine XS.lload X4.here hx rfl (hb hby at_66) rfl ?_
    show Steps p.tables e below (T4.setTop (mkF m 68 #[.val (.int p0), .val (.int p1), .val (.long p2), .second, .val (.long p3), .second, .val (.ref a_GT_EQ), .val (.ref a_LT), .val (.int 1), .val (.int 0)] [(.long p3), (.long p2), (.int 0), (.ref a_LT)])) _
    refine st5 _ ?_
    refine XS.aload X5.here hx rfl (hb hby at_71) rfl rfl ?_
    refine XS.iload X5.here hx rfl (hb hby at_73) rfl ?_
    refine XS.lloadN X5.here hx rfl (hb hby at_75) rfl ?_
    refine XS.lload X5.here hx rfl (hb hby at_76) rfl ?_
    show Steps p.tables e below (T5.setTop (mkF m 78 #[.val (.int p0), .val (.int p1), .val (.long p2), .second, .val (.long p3), .second, .val (.ref a_GT_EQ), .val (.ref a_LT), .val (.int 1), .val (.int 0)] [(.long p3), (.long p2), (.int 0), (.ref a_GT_EQ), (.int 0)])) _
    refine st6 _ ?_
    refine XS.icmpNo X6.here hx rfl (hb hby at_81) rfl (by decide) ?_
    refine XS.iconst X6.here hx rfl (hb hby at_84) ?_
    refine XS.goto X6.here hx rfl (pc0 := 85) (pc' := 89) rfl (hb hby at_85) (by decide) (by decide) ?_
    show Steps p.tables e below (T6.setTop (mkF m 89 #[.val (.int p0), .val (.int p1), .val (.long p2), .second, .val (.long p3), .second, .val (.ref a_GT_EQ), .val (.ref a_LT), .val (.int 1), .val (.int 0)] [(.int 1)])) _
    exact retN X6 hx (t := .boolean) Bd.returns (by simp) (hb hby at_89) hr
  · show QT n0 _ T6.heap _
    rw [e6]
    exact ⟨rfl, N6⟩
set_option maxRecDepth 65536 in
set_option maxHeartbeats 40000000 in
theorem rm0_90 (l : Launch) (Z : State) (a0 : Array Value) (hw : ∀ d ∈ tables_1, d.before a0 Z = true) (ws : List Jvm.Cond) (p0 : Int32) (p1 : Int32) (p2 : Int64) (p3 : Int64) (a_GT_EQ : Addr) (a_LT : Addr) (a_IS_NULL : Addr) (a_NOT_NULL : Addr) (a_EQ : Addr) (a_NOT_EQ : Addr) (a_LT_EQ : Addr) (a_GT : Addr) (h0 : Heap) (n0 : Nat) (Z0 : n0 ≤ h0.size) (f1 : (p0 &&& (7 : Int32)) = (5 : Int32)) (f2 : S_5 Z h0 (.ref a_GT_EQ)) (f3 : F_0 Z h0 a_GT_EQ (.int 5)) (f4 : E_0 Z h0 a_GT_EQ) (f5 : S_4 Z h0 (.ref a_LT)) (f6 : S_2 Z h0 (.ref a_IS_NULL)) (f7 : a_IS_NULL ≠ a_GT_EQ) (f8 : S_3 Z h0 (.ref a_NOT_NULL)) (f9 : a_NOT_NULL ≠ a_GT_EQ) (f10 : a_IS_NULL ≠ a_LT) (f11 : a_NOT_NULL ≠ a_LT) (f12 : E_0 Z h0 a_LT) (f13 : S_0 Z h0 (.ref a_EQ)) (f14 : a_EQ ≠ a_LT) (f15 : S_1 Z h0 (.ref a_NOT_EQ)) (f16 : a_NOT_EQ ≠ a_LT) (f17 : (lcmpW p2 p3) = (1 : Int32)) (f18 : a_EQ ≠ a_GT_EQ) (f19 : a_NOT_EQ ≠ a_GT_EQ) (f20 : a_LT ≠ a_GT_EQ) (f21 : S_6 Z h0 (.ref a_LT_EQ)) (f22 : a_GT_EQ ≠ a_LT_EQ) (f23 : S_7 Z h0 (.ref a_GT)) (f24 : a_GT_EQ ≠ a_GT) :
    MetFree l x (head1 (Jvm.Cond.code x code maxLocals ret :: ws) room_1) (fun a U => a = #[(.int p0), (.int p1), (.long p2), (.long p3)] ∧ Z.Warmed39 U.vm ∧ U.heap = h0) (fun _ _ _ _ _ => True) (fun _ U o U' => ∃ v L, o = .returned v ∧ QT n0 v U'.heap L ∧ FrameEnd U o U' L room_1.cells room_1.slots) := by
  refine MetFree.of_bodySF (plainFor_of_name pn_com_example_floe_floe_OperationNegatePinLaw) hisR ?_
  intro p e s m args below meth c s₁ Bd hml0 hP hK
  obtain ⟨rfl, hZ, hh⟩ := hP
  have hx := Bd.exec
  have hby := Bd.bytes
  have hml : c.maxLocals = 10 := hml0
  have hown : s.vm.findClass "com/example/floe/floe/OperationNegatePinLaw" = some m.cls := findClass_of_methodNamed Bd.named
  have hnm := (name_of_methodNamed Bd.named Bd.method).1
  have X0 : Stand p l e room_1 s m #[(.int p0), (.int p1), (.long p2), (.long p3)] below meth c s₁ [] 0 0 := Stand.of_body Bd
  have e0 : s₁.heap = h0 := by rw [← hh, Bd.state]; rfl
  have N0 := Fr.nil n0
  -- pc 1: com/example/floe/floe/OperationNegatePinLaw.pick
  obtain ⟨_, _, ⟨T1, L1, k1, n1⟩, -, X1, ⟨Lc1, hQ1, l1, y1, z1⟩, st1⟩ := Jvm.LawKit.callS X0 hx (y := M_0) hown (mvT hZ (tw_0 hw)) (mvT hZ (tw_1 hw)) (mvT hZ (tw_2 hw)) (mvT hZ (tw_3 hw)) (by decide) (backOf (W := 0) (rm1_85 l Z a0 hw [] p0 a_GT_EQ h0 n0 Z0 f1 f2) hZ (tw_3 hw) (tw_2 hw) (by decide) (by decide)) (g := (mkF m 1 #[.val (.int p0), .val (.int p1), .val (.long p2), .second, .val (.long p3), .second, .unset, .unset, .unset, .unset] [(.int p0)])) rfl (by rw [hml]; rfl) (argsL := [(.int p0)]) (rest := []) (lenOf pd_0 rfl) rfl (by show 2 * 0 + _ ≤ _; exact Nat.le_of_eq rfl) (hb hby at_1) (fun _ _ => ⟨rfl, e0, (by decide : 0 + 0 ≤ _), (by decide : 0 + 0 ≤ _)⟩)
  dsimp only [Pt.U, Pt.locs, Pt.cells, Pt.slots] at X1 l1 y1 z1 st1 hQ1
  subst l1 y1 z1
  obtain ⟨rfl, Nq1, e1⟩ := hQ1
  have N1 := Fr.app N0 Nq1
  -- pc 8: com/example/floe/floe/Expression$Operation.negate
  obtain ⟨cq2, kq2, q2a, q2b, q2c⟩ := isOf hZ e1 f4
  obtain ⟨_, _, ⟨T2, L2, k2, n2⟩, -, X2, ⟨Lc2, hQ2, l2, y2, z2⟩, st2⟩ := X1.virtualBack hx (y := M_3) (z := M_3) hown (mvT hZ (tw_7 hw)) (mvT hZ (tw_8 hw)) (notFace_of_selects (args := #[]) (mvT hZ (tw_10 hw))) (mvT hZ (tw_10 hw)) (mvT hZ (tw_9 hw)) (by decide) (backOf (W := 0) (rm2_87 l Z a0 hw [] a_GT_EQ a_LT h0 n0 Z0 f3 f4 f5) hZ (tw_11 hw) (tw_5 hw) (by decide) (by decide)) q2a q2c (g := (mkF m 8 #[.val (.int p0), .val (.int p1), .val (.long p2), .second, .val (.long p3), .second, .val (.ref a_GT_EQ), .unset, .unset, .unset] [(.ref a_GT_EQ)])) rfl (by rw [hml]; rfl) (Steps.refl _) (argsL := []) (rest := []) (lenOf pd_2 rfl) rfl (by show 2 * 0 + _ ≤ _; exact Nat.le_of_eq rfl) (hb hby at_8) (fun _ _ => ⟨rfl, e1, (by decide : 0 + 0 ≤ _), (by decide : 0 + 0 ≤ _)⟩)
  dsimp only [Pt.U, Pt.locs, Pt.cells, Pt.slots] at X2 l2 y2 z2 st2 hQ2
  subst l2 y2 z2
  obtain ⟨rfl, Nq2, e2⟩ := hQ2
  have N2 := Fr.app N1 Nq2
  -- pc 22: com/example/floe/floe/Expression$Operation.compares
  obtain ⟨cq3, kq3, q3a, q3b, q3c⟩ := isOf hZ e2 f4
  obtain ⟨_, _, ⟨T3, L3, k3, n3⟩, -, X3, ⟨Lc3, hQ3, l3, y3, z3⟩, st3⟩ := X2.virtualBack hx (y := M_4) (z := M_4) hown (mvT hZ (tw_23 hw)) (mvT hZ (tw_24 hw)) (notFace_of_selects (args := #[]) (mvT hZ (tw_26 hw))) (mvT hZ (tw_26 hw)) (mvT hZ (tw_25 hw)) (by decide) (backOf (W := 0) (rm4_55 l Z a0 hw [] a_GT_EQ a_IS_NULL a_NOT_NULL h0 n0 Z0 f6 f7 f8 f9) hZ (tw_27 hw) (tw_5 hw) (by decide) (by decide)) q3a q3c (g := (mkF m 22 #[.val (.int p0), .val (.int p1), .val (.long p2), .second, .val (.long p3), .second, .val (.ref a_GT_EQ), .val (.ref a_LT), .unset, .unset] [(.ref a_GT_EQ)])) rfl (by rw [hml]; rfl) (Steps.refl _) (argsL := []) (rest := []) (lenOf pd_3 rfl) rfl (by show 2 * 0 + _ ≤ _; exact Nat.le_of_eq rfl) (hb hby at_22) (fun _ _ => ⟨rfl, e2, (by decide : 0 + 0 ≤ _), (by decide : 0 + 0 ≤ _)⟩)
  dsimp only [Pt.U, Pt.locs, Pt.cells, Pt.slots] at X3 l3 y3 z3 st3 hQ3
  subst l3 y3 z3
  obtain ⟨rfl, Nq3, e3⟩ := hQ3
  have N3 := Fr.app N2 Nq3
  -- pc 51: com/example/floe/floe/Expression$Operation.compares
  obtain ⟨cq4, kq4, q4a, q4b, q4c⟩ := isOf hZ e3 f12
  obtain ⟨_, _, ⟨T4, L4, k4, n4⟩, -, X4, ⟨Lc4, hQ4, l4, y4, z4⟩, st4⟩ := X3.virtualBack hx (y := M_4) (z := M_4) hown (mvT hZ (tw_23 hw)) (mvT hZ (tw_24 hw)) (notFace_of_selects (args := #[]) (mvT hZ (tw_26 hw))) (mvT hZ (tw_26 hw)) (mvT hZ (tw_25 hw)) (by decide) (backOf (W := 0) (rm4_54 l Z a0 hw [] a_LT a_IS_NULL a_NOT_NULL h0 n0 Z0 f6 f10 f8 f11) hZ (tw_27 hw) (tw_5 hw) (by decide) (by decide)) q4a q4c (g := (mkF m 51 #[.val (.int p0), .val (.int p1), .val (.long p2), .second, .val (.long p3), .second, .val (.ref a_GT_EQ), .val (.ref a_LT), .val (.int 1), .val (.int 0)] [(.ref a_LT)])) rfl (by rw [hml]; rfl) (Steps.refl _) (argsL := []) (rest := []) (lenOf pd_3 rfl) rfl (by show 2 * 0 + _ ≤ _; exact Nat.le_of_eq rfl) (hb hby at_51) (fun _ _ => ⟨rfl, e3, (by decide : 0 + 0 ≤ _), (by decide : 0 + 0 ≤ _)⟩)
  dsimp only [Pt.U, Pt.locs, Pt.cells, Pt.slots] at X4 l4 y4 z4 st4 hQ4
  subst l4 y4 z4
  obtain ⟨rfl, Nq4, e4⟩ := hQ4
  have N4 := Fr.app N3 Nq4
  -- pc 68: com/example/floe/floe/OperationNegatePinLaw.holds
  obtain ⟨_, _, ⟨T5, L5, k5, n5⟩, -, X5, ⟨Lc5, hQ5, l5, y5, z5⟩, st5⟩ := Jvm.LawKit.callS X4 hx (y := M_5) hown (mvT hZ (tw_32 hw)) (mvT hZ (tw_33 hw)) (mvT hZ (tw_2 hw)) (mvT hZ (tw_34 hw)) (by decide) (backOf (W := 0) (rm5_63 l Z a0 hw [] a_LT p2 p3 a_IS_NULL a_NOT_NULL a_EQ a_NOT_EQ h0 n0 Z0 f6 (Ne.symm f10) f8 (Ne.symm f11) f13 f14 f15 f16 f5 f17) hZ (tw_34 hw) (tw_2 hw) (by decide) (by decide)) (g := (mkF m 68 #[.val (.int p0), .val (.int p1), .val (.long p2), .second, .val (.long p3), .second, .val (.ref a_GT_EQ), .val (.ref a_LT), .val (.int 1), .val (.int 0)] [(.long p3), (.long p2), (.int 0), (.ref a_LT)])) rfl (by rw [hml]; rfl) (argsL := [(.ref a_LT), (.int 0), (.long p2), (.long p3)]) (rest := []) (lenOf pd_4 rfl) rfl (by show 2 * 0 + _ ≤ _; exact Nat.le_of_eq rfl) (hb hby at_68) (fun _ _ => ⟨rfl, e4, (by decide : 0 + 0 ≤ _), (by decide : 0 + 0 ≤ _)⟩)
  dsimp only [Pt.U, Pt.locs, Pt.cells, Pt.slots] at X5 l5 y5 z5 st5 hQ5
  subst l5 y5 z5
  obtain ⟨rfl, Nq5, e5⟩ := hQ5
  have N5 := Fr.app N4 Nq5
  -- pc 78: com/example/floe/floe/OperationNegatePinLaw.holds
  obtain ⟨_, _, ⟨T6, L6, k6, n6⟩, -, X6, ⟨Lc6, hQ6, l6, y6, z6⟩, st6⟩ := Jvm.LawKit.callS X5 hx (y := M_5) hown (mvT hZ (tw_32 hw)) (mvT hZ (tw_33 hw)) (mvT hZ (tw_2 hw)) (mvT hZ (tw_34 hw)) (by decide) (backOf (W := 1) (rm5_62 l Z a0 hw [] a_GT_EQ p2 p3 a_IS_NULL a_NOT_NULL a_EQ a_NOT_EQ a_LT a_LT_EQ a_GT h0 n0 Z0 f6 (Ne.symm f7) f8 (Ne.symm f9) f13 f18 f15 f19 f5 f20 f21 f22 f23 f24 f2 f17) hZ (tw_34 hw) (tw_2 hw) (by decide) (by decide)) (g := (mkF m 78 #[.val (.int p0), .val (.int p1), .val (.long p2), .second, .val (.long p3), .second, .val (.ref a_GT_EQ), .val (.ref a_LT), .val (.int 1), .val (.int 0)] [(.long p3), (.long p2), (.int 0), (.ref a_GT_EQ), (.int 0)])) rfl (by rw [hml]; rfl) (argsL := [(.ref a_GT_EQ), (.int 0), (.long p2), (.long p3)]) (rest := [(.int 0)]) (lenOf pd_4 rfl) rfl (by show 2 * 0 + _ ≤ _; exact Nat.le_of_eq rfl) (hb hby at_78) (fun _ _ => ⟨rfl, e5, (by decide : 0 + 0 ≤ _), (by decide : 0 + 0 ≤ _)⟩)
  dsimp only [Pt.U, Pt.locs, Pt.cells, Pt.slots] at X6 l6 y6 z6 st6 hQ6
  subst l6 y6 z6
  obtain ⟨rfl, Nq6, e6⟩ := hQ6
  have N6 := Fr.app N5 Nq6
  obtain ⟨fs, hr, hrun, hended, hW, hsame⟩ := X6.leave (v := (some (.int 1))) (fun h => by rw [Bd.returns] at h; cases h)
  refine ⟨_, _, castTop (ef0_IIJJ m p0 p1 p2 p3) ?_, hrun, hended, _, _, rfl, ?_, ⟨_, rfl⟩, hW, hsame.mono (by decide) (by decide)⟩
  · show Steps p.tables e below (s₁.setTop (mkF m 0 #[.val (.int p0), .val (.int p1), .val (.long p2), .second, .val (.long p3), .second, .unset, .unset, .unset, .unset] [])) _
    refine XS.iloadN X0.here hx rfl (hb hby at_0) rfl ?_
    show Steps p.tables e below (s₁.setTop (mkF m 1 #[.val (.int p0), .val (.int p1), .val (.long p2), .second, .val (.long p3), .second, .unset, .unset, .unset, .unset] [(.int p0)])) _
    refine st1 _ ?_
    refine XS.astore X1.here hx rfl (hb hby at_4) rfl rfl (l' := #[.val (.int p0), .val (.int p1), .val (.long p2), .second, .val (.long p3), .second, .val (.ref a_GT_EQ), .unset, .unset, .unset]) rfl ?_
    refine XS.aload X1.here hx rfl (hb hby at_6) rfl rfl ?_
    show Steps p.tables e below (T1.setTop (mkF m 8 #[.val (.int p0), .val (.int p1), .val (.long p2), .second, .val (.long p3), .second, .val (.ref a_GT_EQ), .unset, .unset, .unset] [(.ref a_GT_EQ)])) _
    refine st2.trans ?_
    refine XS.astore X2.here hx rfl (hb hby at_11) rfl rfl (l' := #[.val (.int p0), .val (.int p1), .val (.long p2), .second, .val (.long p3), .second, .val (.ref a_GT_EQ), .val (.ref a_LT), .unset, .unset]) rfl ?_
    refine XS.aload X2.here hx rfl (hb hby at_13) rfl rfl ?_
    refine XS.ifnonnullYes X2.here hx rfl (pc0 := 15) (pc' := 20) rfl (hb hby at_15) rfl (by decide) (by decide) ?_
    refine XS.aload X2.here hx rfl (hb hby at_20) rfl rfl ?_
    show Steps p.tables e below (T2.setTop (mkF m 22 #[.val (.int p0), .val (.int p1), .val (.long p2), .second, .val (.long p3), .second, .val (.ref a_GT_EQ), .val (.ref a_LT), .unset, .unset] [(.ref a_GT_EQ)])) _
    refine st3.trans ?_
    refine XS.istore X3.here hx rfl (hb hby at_25) rfl (l' := #[.val (.int p0), .val (.int p1), .val (.long p2), .second, .val (.long p3), .second, .val (.ref a_GT_EQ), .val (.ref a_LT), .val (.int 1), .unset]) rfl ?_
    refine XS.iload X3.here hx rfl (hb hby at_27) rfl ?_
    refine XS.ifNo X3.here hx rfl (hb hby at_29) rfl (by decide) ?_
    refine XS.iconst X3.here hx rfl (hb hby at_32) ?_
    show Steps p.tables e below (T3.setTop (mkF m 33 #[.val (.int p0), .val (.int p1), .val (.long p2), .second, .val (.long p3), .second, .val (.ref a_GT_EQ), .val (.ref a_LT), .val (.int 1), .unset] [(.int 0)])) _
    refine XS.goto X3.here hx rfl (pc0 := 33) (pc' := 47) rfl (hb hby at_33) (by decide) (by decide) ?_
    refine XS.istore X3.here hx rfl (hb hby at_47) rfl (l' := #[.val (.int p0), .val (.int p1), .val (.long p2), .second, .val (.long p3), .second, .val (.ref a_GT_EQ), .val (.ref a_LT), .val (.int 1), .val (.int 0)]) rfl ?_
    refine XS.aload X3.here hx rfl (hb hby at_49) rfl rfl ?_
    show Steps p.tables e below (T3.setTop (mkF m 51 #[.val (.int p0), .val (.int p1), .val (.long p2), .second, .val (.long p3), .second, .val (.ref a_GT_EQ), .val (.ref a_LT), .val (.int 1), .val (.int 0)] [(.ref a_LT)])) _
    refine st4.trans ?_
    refine XS.iload X4.here hx rfl (hb hby at_54) rfl ?_
    refine XS.icmpYes X4.here hx rfl (pc0 := 56) (pc' := 61) rfl (hb hby at_56) rfl (by decide) (by decide) (by decide) ?_
    refine XS.aload X4.here hx rfl (hb hby at_61) rfl rfl ?_
    refine XS.iload X4.here hx rfl (hb hby at_63) rfl ?_
    show Steps p.tables e below (T4.setTop (mkF m 65 #[.val (.int p0), .val (.int p1), .val (.long p2), .second, .val (.long p3), .second, .val (.ref a_GT_EQ), .val (.ref a_LT), .val (.int 1), .val (.int 0)] [(.int 0), (.ref a_LT)])) _
    refine XS.lloadN X4.here hx rfl (hb hby at_65) rfl ?_
    refine XS.lload X4.here hx rfl (hb hby at_66) rfl ?_
    show Steps p.tables e below (T4.setTop (mkF m 68 #[.val (.int p0), .val (.int p1), .val (.long p2), .second, .val (.long p3), .second, .val (.ref a_GT_EQ), .val (.ref a_LT), .val (.int 1), .val (.int 0)] [(.long p3), (.long p2), (.int 0), (.ref a_LT)])) _
    refine st5 _ ?_
    refine XS.aload X5.here hx rfl (hb hby at_71) rfl rfl ?_
    refine XS.iload X5.here hx rfl (hb hby at_73) rfl ?_
    refine XS.lloadN X5.here hx rfl (hb hby at_75) rfl ?_
    refine XS.lload X5.here hx rfl (hb hby at_76) rfl ?_
    show Steps p.tables e below (T5.setTop (mkF m 78 #[.val (.int p0), .val (.int p1), .val (.long p2), .second, .val (.long p3), .second, .val (.ref a_GT_EQ), .val (.ref a_LT), .val (.int 1), .val (.int 0)] [(.long p3), (.long p2), (.int 0), (.ref a_GT_EQ), (.int 0)])) _
    refine st6 _ ?_
    refine XS.icmpNo X6.here hx rfl (hb hby at_81) rfl (by decide) ?_
    refine XS.iconst X6.here hx rfl (hb hby at_84) ?_
    refine XS.goto X6.here hx rfl (pc0 := 85) (pc' := 89) rfl (hb hby at_85) (by decide) (by decide) ?_
    show Steps p.tables e below (T6.setTop (mkF m 89 #[.val (.int p0), .val (.int p1), .val (.long p2), .second, .val (.long p3), .second, .val (.ref a_GT_EQ), .val (.ref a_LT), .val (.int 1), .val (.int 0)] [(.int 1)])) _
    exact retN X6 hx (t := .boolean) Bd.returns (by simp) (hb hby at_89) hr
  · show QT n0 _ T6.heap _
    rw [e6]
    exact ⟨rfl, N6⟩
theorem d1_58 : decode method_2_code 58 = .ok (.iload_n 1, 1) := by decide +kernel
theorem d1_59 : decode method_2_code 59 = .ok (.bipush 6, 2) := by decide +kernel
theorem d1_61 : decode method_2_code 61 = .ok (.if_icmp .ne 7, 3) := by decide +kernel
theorem d1_64 : decode method_2_code 64 = .ok (.getstatic 28, 3) := by decide +kernel
theorem d1_67 : decode method_2_code 67 = .ok (.areturn, 1) := by decide +kernel
set_option maxRecDepth 65536 in
set_option maxHeartbeats 40000000 in
theorem rm1_91 (l : Launch) (Z : State) (a0 : Array Value) (hw : ∀ d ∈ tables_1, d.before a0 Z = true) (ws : List Jvm.Cond) (p0 : Int32) (a_IS_NULL : Addr) (h0 : Heap) (n0 : Nat) (Z0 : n0 ≤ h0.size) (f1 : (p0 &&& (7 : Int32)) = (6 : Int32)) (f2 : S_2 Z h0 (.ref a_IS_NULL)) :
    MetFree l M_0 (head1 (Jvm.Cond.code M_0 method_2_code 2 (some (.object "com/example/floe/floe/Expression$Operation")) :: ws) R_0_0_0_0) (fun a U => a = #[(.int p0)] ∧ Z.Warmed39 U.vm ∧ U.heap = h0) (fun _ _ _ _ _ => True) (fun _ U o U' => ∃ v L, o = .returned v ∧ QP (some (.ref a_IS_NULL)) h0 n0 v U'.heap L ∧ FrameEnd U o U' L R_0_0_0_0.cells R_0_0_0_0.slots) := by
  refine MetFree.of_bodySF (plainFor_of_name pn_com_example_floe_floe_OperationNegatePinLaw) hisR ?_
  intro p e s m args below meth c s₁ Bd hml0 hP hK
  obtain ⟨rfl, hZ, hh⟩ := hP
  have hx := Bd.exec
  have hby := Bd.bytes
  have hml : c.maxLocals = 2 := hml0
  have hown : s.vm.findClass "com/example/floe/floe/OperationNegatePinLaw" = some m.cls := findClass_of_methodNamed Bd.named
  have hnm := (name_of_methodNamed Bd.named Bd.method).1
  have X0 : Stand p l e R_0_0_0_0 s m #[(.int p0)] below meth c s₁ [] 0 0 := Stand.of_body Bd
  have e0 : s₁.heap = h0 := by rw [← hh, Bd.state]; rfl
  have N0 := Fr.nil n0
  obtain ⟨T1, X1, e1, st1⟩ := getS2 X0 hx hZ hown (host := "") (Or.inl (tw_35 hw)) Via.refl e0 f2 (g := (mkF m 64 #[.val (.int p0), .val (.int 6)] [])) rfl (hb hby d1_64)
  obtain ⟨fs, hr, hrun, hended, hW, hsame⟩ := X1.leave (v := (some (.ref a_IS_NULL))) (fun h => by rw [Bd.returns] at h; cases h)
  refine ⟨_, _, castTop (ef1_I m p0) ?_, hrun, hended, _, _, rfl, ?_, ⟨_, rfl⟩, hW, hsame.mono (by decide) (by decide)⟩
  · show Steps p.tables e below (s₁.setTop (mkF m 0 #[.val (.int p0), .unset] [])) _
    refine XS.iloadN X0.here hx rfl (hb hby d1_0) rfl ?_
    refine XS.bipush X0.here hx rfl (hb hby d1_1) ?_
    show Steps p.tables e below (s₁.setTop (mkF m 3 #[.val (.int p0), .unset] [(.int 7), (.int p0)])) _
    refine XS.iand X0.here hx rfl (hb hby d1_3) rfl ?_
    show Steps p.tables e below (s₁.setTop (mkF m 4 #[.val (.int p0), .unset] [(.int (p0 &&& (7 : Int32)))])) _
    rw [f1]
    refine XS.istoreN X0.here hx rfl (hb hby d1_4) rfl (l' := #[.val (.int p0), .val (.int 6)]) rfl ?_
    refine XS.iloadN X0.here hx rfl (hb hby d1_5) rfl ?_
    refine XS.ifYes X0.here hx rfl (pc0 := 6) (pc' := 13) rfl (hb hby d1_6) rfl (by decide) (by decide) (by decide) ?_
    refine XS.iloadN X0.here hx rfl (hb hby d1_13) rfl ?_
    show Steps p.tables e below (s₁.setTop (mkF m 14 #[.val (.int p0), .val (.int 6)] [(.int 6)])) _
    refine XS.iconst X0.here hx rfl (hb hby d1_14) ?_
    refine XS.icmpYes X0.here hx rfl (pc0 := 15) (pc' := 22) rfl (hb hby d1_15) rfl (by decide) (by decide) (by decide) ?_
    refine XS.iloadN X0.here hx rfl (hb hby d1_22) rfl ?_
    refine XS.iconst X0.here hx rfl (hb hby d1_23) ?_
    refine XS.icmpYes X0.here hx rfl (pc0 := 24) (pc' := 31) rfl (hb hby d1_24) rfl (by decide) (by decide) (by decide) ?_
    show Steps p.tables e below (s₁.setTop (mkF m 31 #[.val (.int p0), .val (.int 6)] [])) _
    refine XS.iloadN X0.here hx rfl (hb hby d1_31) rfl ?_
    refine XS.iconst X0.here hx rfl (hb hby d1_32) ?_
    refine XS.icmpYes X0.here hx rfl (pc0 := 33) (pc' := 40) rfl (hb hby d1_33) rfl (by decide) (by decide) (by decide) ?_
    refine XS.iloadN X0.here hx rfl (hb hby d1_40) rfl ?_
    refine XS.iconst X0.here hx rfl (hb hby d1_41) ?_
    show Steps p.tables e below (s₁.setTop (mkF m 42 #[.val (.int p0), .val (.int 6)] [(.int 4), (.int 6)])) _
    refine XS.icmpYes X0.here hx rfl (pc0 := 42) (pc' := 49) rfl (hb hby d1_42) rfl (by decide) (by decide) (by decide) ?_
    refine XS.iloadN X0.here hx rfl (hb hby d1_49) rfl ?_
    refine XS.iconst X0.here hx rfl (hb hby d1_50) ?_
    refine XS.icmpYes X0.here hx rfl (pc0 := 51) (pc' := 58) rfl (hb hby d1_51) rfl (by decide) (by decide) (by decide) ?_
    refine XS.iloadN X0.here hx rfl (hb hby d1_58) rfl ?_
    show Steps p.tables e below (s₁.setTop (mkF m 59 #[.val (.int p0), .val (.int 6)] [(.int 6)])) _
    refine XS.bipush X0.here hx rfl (hb hby d1_59) ?_
    refine XS.icmpNo X0.here hx rfl (hb hby d1_61) rfl (by decide) ?_
    show Steps p.tables e below (s₁.setTop (mkF m 64 #[.val (.int p0), .val (.int 6)] [])) _
    refine st1 _ ?_
    show Steps p.tables e below (T1.setTop (mkF m 67 #[.val (.int p0), .val (.int 6)] [(.ref a_IS_NULL)])) _
    jvm_step X1.here [X1.here.top, hx, (hb hby d1_67), X1.method', Bd.returns, Value.isRef, FieldType.isReference]
    first | (intro acts; rw [hr _ acts rfl rfl rfl]) | rw [hr _ _ rfl rfl rfl]
    exact Steps.refl _
  · show QP (some (.ref a_IS_NULL)) h0 n0 _ T1.heap _
    rw [e1]
    exact ⟨rfl, N0, rfl⟩
set_option maxRecDepth 65536 in
set_option maxHeartbeats 40000000 in
theorem rm3_92 (l : Launch) (Z : State) (a0 : Array Value) (hw : ∀ d ∈ tables_1, d.before a0 Z = true) (ws : List Jvm.Cond) (a_IS_NULL : Addr) (h0 : Heap) (n0 : Nat) (Z0 : n0 ≤ h0.size) (f1 : F_0 Z h0 a_IS_NULL (.int 6)) :
    MetFree l M_1 (head1 (Jvm.Cond.code M_1 jdk_37_method_2_code 1 (some .int) :: ws) R_0_0_0_0) (fun a U => a = #[(.ref a_IS_NULL)] ∧ Z.Warmed39 U.vm ∧ U.heap = h0) (fun _ _ _ _ _ => True) (fun _ U o U' => ∃ v L, o = .returned v ∧ QP (some (.int 6)) h0 n0 v U'.heap L ∧ FrameEnd U o U' L R_0_0_0_0.cells R_0_0_0_0.slots) := by
  refine MetFree.of_bodySF (plainFor_of_name pn_java_lang_Enum) hisR ?_
  intro p e s m args below meth c s₁ Bd hml0 hP hK
  obtain ⟨rfl, hZ, hh⟩ := hP
  have hx := Bd.exec
  have hby := Bd.bytes
  have hml : c.maxLocals = 1 := hml0
  have hown : s.vm.findClass "java/lang/Enum" = some m.cls := findClass_of_methodNamed Bd.named
  have hnm := (name_of_methodNamed Bd.named Bd.method).1
  have X0 : Stand p l e R_0_0_0_0 s m #[(.ref a_IS_NULL)] below meth c s₁ [] 0 0 := Stand.of_body Bd
  have e0 : s₁.heap = h0 := by rw [← hh, Bd.state]; rfl
  have N0 := Fr.nil n0
  obtain ⟨T1, X1, e1, st1⟩ := getF X0 hx hZ hown (host := "") (Or.inl (tw_19 hw)) Via.refl e0 f1 (g := (mkF m 1 #[.val (.ref a_IS_NULL)] [(.ref a_IS_NULL)])) rfl rfl (hb hby d3_1)
  obtain ⟨fs, hr, hrun, hended, hW, hsame⟩ := X1.leave (v := (some (.int 6))) (fun h => by rw [Bd.returns] at h; cases h)
  refine ⟨_, _, castTop (ef3_R m a_IS_NULL) ?_, hrun, hended, _, _, rfl, ?_, ⟨_, rfl⟩, hW, hsame.mono (by decide) (by decide)⟩
  · show Steps p.tables e below (s₁.setTop (mkF m 0 #[.val (.ref a_IS_NULL)] [])) _
    refine XS.aloadN X0.here hx rfl (hb hby d3_0) rfl rfl ?_
    show Steps p.tables e below (s₁.setTop (mkF m 1 #[.val (.ref a_IS_NULL)] [(.ref a_IS_NULL)])) _
    refine st1 _ ?_
    show Steps p.tables e below (T1.setTop (mkF m 4 #[.val (.ref a_IS_NULL)] [(.int 6)])) _
    exact retI X1 hx Bd.returns (hb hby d3_4) hr
  · show QP (some (.int 6)) h0 n0 _ T1.heap _
    rw [e1]
    exact ⟨rfl, N0, rfl⟩
theorem d2_98 : decode prog_13_method_7_code 98 = .ok (.getstatic 25, 3) := by decide +kernel
theorem d2_101 : decode prog_13_method_7_code 101 = .ok (.goto 6, 3) := by decide +kernel
set_option maxRecDepth 65536 in
set_option maxHeartbeats 40000000 in
theorem rm2_93 (l : Launch) (Z : State) (a0 : Array Value) (hw : ∀ d ∈ tables_1, d.before a0 Z = true) (ws : List Jvm.Cond) (a_IS_NULL : Addr) (a_NOT_NULL : Addr) (h0 : Heap) (n0 : Nat) (Z0 : n0 ≤ h0.size) (f1 : F_0 Z h0 a_IS_NULL (.int 6)) (f2 : E_0 Z h0 a_IS_NULL) (f3 : S_3 Z h0 (.ref a_NOT_NULL)) :
    MetFree l M_3 (head1 (Jvm.Cond.code M_3 prog_13_method_7_code 1 (some (.object "com/example/floe/floe/Expression$Operation")) :: ws) R_1_0_0_12) (fun a U => a = #[(.ref a_IS_NULL)] ∧ Z.Warmed39 U.vm ∧ U.heap = h0) (fun _ _ _ _ _ => True) (fun _ U o U' => ∃ v L, o = .returned v ∧ QP (some (.ref a_NOT_NULL)) h0 n0 v U'.heap L ∧ FrameEnd U o U' L R_1_0_0_12.cells R_1_0_0_12.slots) := by
  refine MetFree.of_bodySF (plainFor_of_name pn_com_example_floe_floe_Expression_Operation) hisR ?_
  intro p e s m args below meth c s₁ Bd hml0 hP hK
  obtain ⟨rfl, hZ, hh⟩ := hP
  have hx := Bd.exec
  have hby := Bd.bytes
  have hml : c.maxLocals = 1 := hml0
  have hown : s.vm.findClass "com/example/floe/floe/Expression$Operation" = some m.cls := findClass_of_methodNamed Bd.named
  have hnm := (name_of_methodNamed Bd.named Bd.method).1
  have X0 : Stand p l e R_1_0_0_12 s m #[(.ref a_IS_NULL)] below meth c s₁ [] 0 0 := Stand.of_body Bd
  have e0 : s₁.heap = h0 := by rw [← hh, Bd.state]; rfl
  have N0 := Fr.nil n0
  -- pc 1: java/lang/Enum.ordinal
  obtain ⟨cq1, kq1, q1a, q1b, q1c⟩ := isOf hZ e0 f2
  obtain ⟨_, _, ⟨T1, L1, k1, n1⟩, -, X1, ⟨Lc1, hQ1, l1, y1, z1⟩, st1⟩ := X0.virtualBackUp hx (x := M_2) (y := M_1) (owner := "java/lang/Enum") hown (mvT hZ (tw_12 hw)) (mvT hZ (tw_13 hw)) (mvT hZ (tw_14 hw)) (by decide) (mvT hZ (tw_16 hw)) (mvT hZ (tw_15 hw)) (backOf (W := 0) (rm3_92 l Z a0 hw [] a_IS_NULL h0 n0 Z0 f1) hZ (tw_18 hw) (tw_17 hw) (by decide) (by decide)) q1a q1c (g := (mkF m 1 #[.val (.ref a_IS_NULL)] [(.ref a_IS_NULL)])) rfl (by rw [hml]; rfl) (Steps.refl _) (argsL := []) (rest := []) (lenOf pd_1 rfl) rfl (by show 2 * 0 + _ ≤ _; exact Nat.le_of_eq rfl) (hb hby d2_1) (fun _ _ => ⟨rfl, e0, (by decide : 0 + 0 ≤ _), (by decide : 0 + 0 ≤ _)⟩)
  dsimp only [Pt.U, Pt.locs, Pt.cells, Pt.slots] at X1 l1 y1 z1 st1 hQ1
  subst l1 y1 z1
  obtain ⟨rfl, Nq1, e1⟩ := hQ1
  have N1 := Fr.app N0 Nq1
  obtain ⟨T2, X2, e2, st2⟩ := getS2 X1 hx hZ hown (host := "") (Or.inl (tw_30 hw)) Via.refl e1 f3 (g := (mkF m 98 #[.val (.ref a_IS_NULL)] [])) rfl (hb hby d2_98)
  obtain ⟨fs, hr, hrun, hended, hW, hsame⟩ := X2.leave (v := (some (.ref a_NOT_NULL))) (fun h => by rw [Bd.returns] at h; cases h)
  refine ⟨_, _, castTop (ef2_R m a_IS_NULL) ?_, hrun, hended, _, _, rfl, ?_, ⟨_, rfl⟩, hW, hsame.mono (by decide) (by decide)⟩
  · show Steps p.tables e below (s₁.setTop (mkF m 0 #[.val (.ref a_IS_NULL)] [])) _
    refine XS.aloadN X0.here hx rfl (hb hby d2_0) rfl rfl ?_
    show Steps p.tables e below (s₁.setTop (mkF m 1 #[.val (.ref a_IS_NULL)] [(.ref a_IS_NULL)])) _
    refine st1.trans ?_
    show Steps p.tables e below (T1.setTop (mkF m 4 #[.val (.ref a_IS_NULL)] [(.int 6)])) _
    refine XS.tswIn X1.here hx rfl (pc0 := 4) (pc' := 98) (o := 94) rfl (hb hby d2_4) rfl (by decide) (by decide) (by decide) (by decide) ?_
    show Steps p.tables e below (T1.setTop (mkF m 98 #[.val (.ref a_IS_NULL)] [])) _
    refine st2 _ ?_
    refine XS.goto X2.here hx rfl (pc0 := 101) (pc' := 107) rfl (hb hby d2_101) (by decide) (by decide) ?_
    show Steps p.tables e below (T2.setTop (mkF m 107 #[.val (.ref a_IS_NULL)] [(.ref a_NOT_NULL)])) _
    jvm_step X2.here [X2.here.top, hx, (hb hby d2_107), X2.method', Bd.returns, Value.isRef, FieldType.isReference]
    first | (intro acts; rw [hr _ acts rfl rfl rfl]) | rw [hr _ _ rfl rfl rfl]
    exact Steps.refl _
  · show QP (some (.ref a_NOT_NULL)) h0 n0 _ T2.heap _
    rw [e2]
    exact ⟨rfl, N1, rfl⟩
theorem d4_18 : decode prog_13_method_5_code 18 = .ok (.iconst 0, 1) := by decide +kernel
set_option maxRecDepth 65536 in
set_option maxHeartbeats 40000000 in
theorem rm4_94 (l : Launch) (Z : State) (a0 : Array Value) (hw : ∀ d ∈ tables_1, d.before a0 Z = true) (ws : List Jvm.Cond) (a_IS_NULL : Addr) (h0 : Heap) (n0 : Nat) (Z0 : n0 ≤ h0.size) (f1 : S_2 Z h0 (.ref a_IS_NULL)) :
    MetFree l M_4 (head1 (Jvm.Cond.code M_4 prog_13_method_5_code 1 (some .boolean) :: ws) R_0_0_0_0) (fun a U => a = #[(.ref a_IS_NULL)] ∧ Z.Warmed39 U.vm ∧ U.heap = h0) (fun _ _ _ _ _ => True) (fun _ U o U' => ∃ v L, o = .returned v ∧ QP (some (.int 0)) h0 n0 v U'.heap L ∧ FrameEnd U o U' L R_0_0_0_0.cells R_0_0_0_0.slots) := by
  refine MetFree.of_bodySF (plainFor_of_name pn_com_example_floe_floe_Expression_Operation) hisR ?_
  intro p e s m args below meth c s₁ Bd hml0 hP hK
  obtain ⟨rfl, hZ, hh⟩ := hP
  have hx := Bd.exec
  have hby := Bd.bytes
  have hml : c.maxLocals = 1 := hml0
  have hown : s.vm.findClass "com/example/floe/floe/Expression$Operation" = some m.cls := findClass_of_methodNamed Bd.named
  have hnm := (name_of_methodNamed Bd.named Bd.method).1
  have X0 : Stand p l e R_0_0_0_0 s m #[(.ref a_IS_NULL)] below meth c s₁ [] 0 0 := Stand.of_body Bd
  have e0 : s₁.heap = h0 := by rw [← hh, Bd.state]; rfl
  have N0 := Fr.nil n0
  obtain ⟨T1, X1, e1, st1⟩ := getS2 X0 hx hZ hown (host := "") (Or.inl (tw_28 hw)) Via.refl e0 f1 (g := (mkF m 1 #[.val (.ref a_IS_NULL)] [(.ref a_IS_NULL)])) rfl (hb hby d4_1)
  obtain ⟨fs, hr, hrun, hended, hW, hsame⟩ := X1.leave (v := (some (.int 0))) (fun h => by rw [Bd.returns] at h; cases h)
  refine ⟨_, _, castTop (ef4_R m a_IS_NULL) ?_, hrun, hended, _, _, rfl, ?_, ⟨_, rfl⟩, hW, hsame.mono (by decide) (by decide)⟩
  · show Steps p.tables e below (s₁.setTop (mkF m 0 #[.val (.ref a_IS_NULL)] [])) _
    refine XS.aloadN X0.here hx rfl (hb hby d4_0) rfl rfl ?_
    show Steps p.tables e below (s₁.setTop (mkF m 1 #[.val (.ref a_IS_NULL)] [(.ref a_IS_NULL)])) _
    refine st1 _ ?_
    show Steps p.tables e below (T1.setTop (mkF m 4 #[.val (.ref a_IS_NULL)] [(.ref a_IS_NULL), (.ref a_IS_NULL)])) _
    refine Jvm.RoadKit.acmp (g := (mkF m 4 #[.val (.ref a_IS_NULL)] [(.ref a_IS_NULL), (.ref a_IS_NULL)])) X1 hx rfl rfl rfl (pc0 := 4) (pc' := 18) (same := true) rfl (hb hby d4_4) rfl (decide_eq_true rfl) (by decide) (by decide) ?_
    refine XS.iconst X1.here hx rfl (hb hby d4_18) ?_
    show Steps p.tables e below (T1.setTop (mkF m 19 #[.val (.ref a_IS_NULL)] [(.int 0)])) _
    exact retN X1 hx (t := .boolean) Bd.returns (by simp) (hb hby d4_19) hr
  · show QP (some (.int 0)) h0 n0 _ T1.heap _
    rw [e1]
    exact ⟨rfl, N0, rfl⟩
set_option maxRecDepth 65536 in
set_option maxHeartbeats 40000000 in
theorem rm4_95 (l : Launch) (Z : State) (a0 : Array Value) (hw : ∀ d ∈ tables_1, d.before a0 Z = true) (ws : List Jvm.Cond) (a_NOT_NULL : Addr) (a_IS_NULL : Addr) (h0 : Heap) (n0 : Nat) (Z0 : n0 ≤ h0.size) (f1 : S_2 Z h0 (.ref a_IS_NULL)) (f2 : a_IS_NULL ≠ a_NOT_NULL) (f3 : S_3 Z h0 (.ref a_NOT_NULL)) :
    MetFree l M_4 (head1 (Jvm.Cond.code M_4 prog_13_method_5_code 1 (some .boolean) :: ws) R_0_0_0_0) (fun a U => a = #[(.ref a_NOT_NULL)] ∧ Z.Warmed39 U.vm ∧ U.heap = h0) (fun _ _ _ _ _ => True) (fun _ U o U' => ∃ v L, o = .returned v ∧ QP (some (.int 0)) h0 n0 v U'.heap L ∧ FrameEnd U o U' L R_0_0_0_0.cells R_0_0_0_0.slots) := by
  refine MetFree.of_bodySF (plainFor_of_name pn_com_example_floe_floe_Expression_Operation) hisR ?_
  intro p e s m args below meth c s₁ Bd hml0 hP hK
  obtain ⟨rfl, hZ, hh⟩ := hP
  have hx := Bd.exec
  have hby := Bd.bytes
  have hml : c.maxLocals = 1 := hml0
  have hown : s.vm.findClass "com/example/floe/floe/Expression$Operation" = some m.cls := findClass_of_methodNamed Bd.named
  have hnm := (name_of_methodNamed Bd.named Bd.method).1
  have X0 : Stand p l e R_0_0_0_0 s m #[(.ref a_NOT_NULL)] below meth c s₁ [] 0 0 := Stand.of_body Bd
  have e0 : s₁.heap = h0 := by rw [← hh, Bd.state]; rfl
  have N0 := Fr.nil n0
  obtain ⟨T1, X1, e1, st1⟩ := getS2 X0 hx hZ hown (host := "") (Or.inl (tw_28 hw)) Via.refl e0 f1 (g := (mkF m 1 #[.val (.ref a_NOT_NULL)] [(.ref a_NOT_NULL)])) rfl (hb hby d4_1)
  obtain ⟨T2, X2, e2, st2⟩ := getS2 X1 hx hZ hown (host := "") (Or.inl (tw_30 hw)) Via.refl e1 f3 (g := (mkF m 8 #[.val (.ref a_NOT_NULL)] [(.ref a_NOT_NULL)])) rfl (hb hby d4_8)
  obtain ⟨fs, hr, hrun, hended, hW, hsame⟩ := X2.leave (v := (some (.int 0))) (fun h => by rw [Bd.returns] at h; cases h)
  refine ⟨_, _, castTop (ef4_R m a_NOT_NULL) ?_, hrun, hended, _, _, rfl, ?_, ⟨_, rfl⟩, hW, hsame.mono (by decide) (by decide)⟩
  · show Steps p.tables e below (s₁.setTop (mkF m 0 #[.val (.ref a_NOT_NULL)] [])) _
    refine XS.aloadN X0.here hx rfl (hb hby d4_0) rfl rfl ?_
    show Steps p.tables e below (s₁.setTop (mkF m 1 #[.val (.ref a_NOT_NULL)] [(.ref a_NOT_NULL)])) _
    refine st1 _ ?_
    show Steps p.tables e below (T1.setTop (mkF m 4 #[.val (.ref a_NOT_NULL)] [(.ref a_IS_NULL), (.ref a_NOT_NULL)])) _
    refine Jvm.RoadKit.acmp (g := (mkF m 4 #[.val (.ref a_NOT_NULL)] [(.ref a_IS_NULL), (.ref a_NOT_NULL)])) X1 hx rfl rfl rfl (pc0 := 4) (pc' := 7) (same := false) rfl (hb hby d4_4) rfl (decide_eq_false fun q => (Ne.symm f2) (Value.ref.inj q)) (by decide) (by decide) ?_
    refine XS.aloadN X1.here hx rfl (hb hby d4_7) rfl rfl ?_
    show Steps p.tables e below (T1.setTop (mkF m 8 #[.val (.ref a_NOT_NULL)] [(.ref a_NOT_NULL)])) _
    refine st2 _ ?_
    show Steps p.tables e below (T2.setTop (mkF m 11 #[.val (.ref a_NOT_NULL)] [(.ref a_NOT_NULL), (.ref a_NOT_NULL)])) _
    refine Jvm.RoadKit.acmp (g := (mkF m 11 #[.val (.ref a_NOT_NULL)] [(.ref a_NOT_NULL), (.ref a_NOT_NULL)])) X2 hx rfl rfl rfl (pc0 := 11) (pc' := 18) (same := true) rfl (hb hby d4_11) rfl (decide_eq_true rfl) (by decide) (by decide) ?_
    refine XS.iconst X2.here hx rfl (hb hby d4_18) ?_
    show Steps p.tables e below (T2.setTop (mkF m 19 #[.val (.ref a_NOT_NULL)] [(.int 0)])) _
    exact retN X2 hx (t := .boolean) Bd.returns (by simp) (hb hby d4_19) hr
  · show QP (some (.int 0)) h0 n0 _ T2.heap _
    rw [e2]
    exact ⟨rfl, N0, rfl⟩
theorem d5_16 : decode method_3_code 16 = .ok (.iload_n 1, 1) := by decide +kernel
theorem d5_17 : decode method_3_code 17 = .ok (.ifCond .ne 7, 3) := by decide +kernel
theorem d5_20 : decode method_3_code 20 = .ok (.iconst 1, 1) := by decide +kernel
theorem d5_21 : decode method_3_code 21 = .ok (.goto 4, 3) := by decide +kernel
theorem d5_25 : decode method_3_code 25 = .ok (.ireturn, 1) := by decide +kernel
set_option maxRecDepth 65536 in
set_option maxHeartbeats 40000000 in
theorem rm5_96 (l : Launch) (Z : State) (a0 : Array Value) (hw : ∀ d ∈ tables_1, d.before a0 Z = true) (ws : List Jvm.Cond) (a_NOT_NULL : Addr) (p2 : Int64) (p3 : Int64) (a_IS_NULL : Addr) (h0 : Heap) (n0 : Nat) (Z0 : n0 ≤ h0.size) (f1 : S_2 Z h0 (.ref a_IS_NULL)) (f2 : a_NOT_NULL ≠ a_IS_NULL) (f3 : S_3 Z h0 (.ref a_NOT_NULL)) :
    MetFree l M_5 (head1 (Jvm.Cond.code M_5 method_3_code 6 (some .boolean) :: ws) R_0_0_0_0) (fun a U => a = #[(.ref a_NOT_NULL), (.int 0), (.long p2), (.long p3)] ∧ Z.Warmed39 U.vm ∧ U.heap = h0) (fun _ _ _ _ _ => True) (fun _ U o U' => ∃ v L, o = .returned v ∧ QP (some (.int 1)) h0 n0 v U'.heap L ∧ FrameEnd U o U' L R_0_0_0_0.cells R_0_0_0_0.slots) := by
  refine MetFree.of_bodySF (plainFor_of_name pn_com_example_floe_floe_OperationNegatePinLaw) hisR ?_
  intro p e s m args below meth c s₁ Bd hml0 hP hK
  obtain ⟨rfl, hZ, hh⟩ := hP
  have hx := Bd.exec
  have hby := Bd.bytes
  have hml : c.maxLocals = 6 := hml0
  have hown : s.vm.findClass "com/example/floe/floe/OperationNegatePinLaw" = some m.cls := findClass_of_methodNamed Bd.named
  have hnm := (name_of_methodNamed Bd.named Bd.method).1
  have X0 : Stand p l e R_0_0_0_0 s m #[(.ref a_NOT_NULL), (.int 0), (.long p2), (.long p3)] below meth c s₁ [] 0 0 := Stand.of_body Bd
  have e0 : s₁.heap = h0 := by rw [← hh, Bd.state]; rfl
  have N0 := Fr.nil n0
  obtain ⟨T1, X1, e1, st1⟩ := getS2 X0 hx hZ hown (host := "") (Or.inl (tw_35 hw)) Via.refl e0 f1 (g := (mkF m 1 #[.val (.ref a_NOT_NULL), .val (.int 0), .val (.long p2), .second, .val (.long p3), .second] [(.ref a_NOT_NULL)])) rfl (hb hby d5_1)
  obtain ⟨T2, X2, e2, st2⟩ := getS2 X1 hx hZ hown (host := "") (Or.inl (tw_36 hw)) Via.refl e1 f3 (g := (mkF m 10 #[.val (.ref a_NOT_NULL), .val (.int 0), .val (.long p2), .second, .val (.long p3), .second] [(.ref a_NOT_NULL)])) rfl (hb hby d5_10)
  obtain ⟨fs, hr, hrun, hended, hW, hsame⟩ := X2.leave (v := (some (.int 1))) (fun h => by rw [Bd.returns] at h; cases h)
  refine ⟨_, _, castTop (ef5_RIJJ m a_NOT_NULL (0 : Int32) p2 p3) ?_, hrun, hended, _, _, rfl, ?_, ⟨_, rfl⟩, hW, hsame.mono (by decide) (by decide)⟩
  · show Steps p.tables e below (s₁.setTop (mkF m 0 #[.val (.ref a_NOT_NULL), .val (.int 0), .val (.long p2), .second, .val (.long p3), .second] [])) _
    refine XS.aloadN X0.here hx rfl (hb hby d5_0) rfl rfl ?_
    show Steps p.tables e below (s₁.setTop (mkF m 1 #[.val (.ref a_NOT_NULL), .val (.int 0), .val (.long p2), .second, .val (.long p3), .second] [(.ref a_NOT_NULL)])) _
    refine st1 _ ?_
    show Steps p.tables e below (T1.setTop (mkF m 4 #[.val (.ref a_NOT_NULL), .val (.int 0), .val (.long p2), .second, .val (.long p3), .second] [(.ref a_IS_NULL), (.ref a_NOT_NULL)])) _
    refine Jvm.RoadKit.acmp (g := (mkF m 4 #[.val (.ref a_NOT_NULL), .val (.int 0), .val (.long p2), .second, .val (.long p3), .second] [(.ref a_IS_NULL), (.ref a_NOT_NULL)])) X1 hx rfl rfl rfl (pc0 := 4) (pc' := 9) (same := false) rfl (hb hby d5_4) rfl (decide_eq_false fun q => f2 (Value.ref.inj q)) (by decide) (by decide) ?_
    refine XS.aloadN X1.here hx rfl (hb hby d5_9) rfl rfl ?_
    show Steps p.tables e below (T1.setTop (mkF m 10 #[.val (.ref a_NOT_NULL), .val (.int 0), .val (.long p2), .second, .val (.long p3), .second] [(.ref a_NOT_NULL)])) _
    refine st2 _ ?_
    show Steps p.tables e below (T2.setTop (mkF m 13 #[.val (.ref a_NOT_NULL), .val (.int 0), .val (.long p2), .second, .val (.long p3), .second] [(.ref a_NOT_NULL), (.ref a_NOT_NULL)])) _
    refine Jvm.RoadKit.acmp (g := (mkF m 13 #[.val (.ref a_NOT_NULL), .val (.int 0), .val (.long p2), .second, .val (.long p3), .second] [(.ref a_NOT_NULL), (.ref a_NOT_NULL)])) X2 hx rfl rfl rfl (pc0 := 13) (pc' := 16) (same := true) rfl (hb hby d5_13) rfl (decide_eq_true rfl) (by decide) (by decide) ?_
    refine XS.iloadN X2.here hx rfl (hb hby d5_16) rfl ?_
    refine XS.ifNo X2.here hx rfl (hb hby d5_17) rfl (by decide) ?_
    refine XS.iconst X2.here hx rfl (hb hby d5_20) ?_
    refine XS.goto X2.here hx rfl (pc0 := 21) (pc' := 25) rfl (hb hby d5_21) (by decide) (by decide) ?_
    show Steps p.tables e below (T2.setTop (mkF m 25 #[.val (.ref a_NOT_NULL), .val (.int 0), .val (.long p2), .second, .val (.long p3), .second] [(.int 1)])) _
    exact retN X2 hx (t := .boolean) Bd.returns (by simp) (hb hby d5_25) hr
  · show QP (some (.int 1)) h0 n0 _ T2.heap _
    rw [e2]
    exact ⟨rfl, N0, rfl⟩
theorem d5_7 : decode method_3_code 7 = .ok (.iload_n 1, 1) := by decide +kernel
theorem d5_8 : decode method_3_code 8 = .ok (.ireturn, 1) := by decide +kernel
set_option maxRecDepth 65536 in
set_option maxHeartbeats 40000000 in
theorem rm5_97 (l : Launch) (Z : State) (a0 : Array Value) (hw : ∀ d ∈ tables_1, d.before a0 Z = true) (ws : List Jvm.Cond) (a_IS_NULL : Addr) (p2 : Int64) (p3 : Int64) (h0 : Heap) (n0 : Nat) (Z0 : n0 ≤ h0.size) (f1 : S_2 Z h0 (.ref a_IS_NULL)) :
    MetFree l M_5 (head1 (Jvm.Cond.code M_5 method_3_code 6 (some .boolean) :: ws) R_0_0_0_0) (fun a U => a = #[(.ref a_IS_NULL), (.int 0), (.long p2), (.long p3)] ∧ Z.Warmed39 U.vm ∧ U.heap = h0) (fun _ _ _ _ _ => True) (fun _ U o U' => ∃ v L, o = .returned v ∧ QP (some (.int 0)) h0 n0 v U'.heap L ∧ FrameEnd U o U' L R_0_0_0_0.cells R_0_0_0_0.slots) := by
  refine MetFree.of_bodySF (plainFor_of_name pn_com_example_floe_floe_OperationNegatePinLaw) hisR ?_
  intro p e s m args below meth c s₁ Bd hml0 hP hK
  obtain ⟨rfl, hZ, hh⟩ := hP
  have hx := Bd.exec
  have hby := Bd.bytes
  have hml : c.maxLocals = 6 := hml0
  have hown : s.vm.findClass "com/example/floe/floe/OperationNegatePinLaw" = some m.cls := findClass_of_methodNamed Bd.named
  have hnm := (name_of_methodNamed Bd.named Bd.method).1
  have X0 : Stand p l e R_0_0_0_0 s m #[(.ref a_IS_NULL), (.int 0), (.long p2), (.long p3)] below meth c s₁ [] 0 0 := Stand.of_body Bd
  have e0 : s₁.heap = h0 := by rw [← hh, Bd.state]; rfl
  have N0 := Fr.nil n0
  obtain ⟨T1, X1, e1, st1⟩ := getS2 X0 hx hZ hown (host := "") (Or.inl (tw_35 hw)) Via.refl e0 f1 (g := (mkF m 1 #[.val (.ref a_IS_NULL), .val (.int 0), .val (.long p2), .second, .val (.long p3), .second] [(.ref a_IS_NULL)])) rfl (hb hby d5_1)
  obtain ⟨fs, hr, hrun, hended, hW, hsame⟩ := X1.leave (v := (some (.int 0))) (fun h => by rw [Bd.returns] at h; cases h)
  refine ⟨_, _, castTop (ef5_RIJJ m a_IS_NULL (0 : Int32) p2 p3) ?_, hrun, hended, _, _, rfl, ?_, ⟨_, rfl⟩, hW, hsame.mono (by decide) (by decide)⟩
  · show Steps p.tables e below (s₁.setTop (mkF m 0 #[.val (.ref a_IS_NULL), .val (.int 0), .val (.long p2), .second, .val (.long p3), .second] [])) _
    refine XS.aloadN X0.here hx rfl (hb hby d5_0) rfl rfl ?_
    show Steps p.tables e below (s₁.setTop (mkF m 1 #[.val (.ref a_IS_NULL), .val (.int 0), .val (.long p2), .second, .val (.long p3), .second] [(.ref a_IS_NULL)])) _
    refine st1 _ ?_
    show Steps p.tables e below (T1.setTop (mkF m 4 #[.val (.ref a_IS_NULL), .val (.int 0), .val (.long p2), .second, .val (.long p3), .second] [(.ref a_IS_NULL), (.ref a_IS_NULL)])) _
    refine Jvm.RoadKit.acmp (g := (mkF m 4 #[.val (.ref a_IS_NULL), .val (.int 0), .val (.long p2), .second, .val (.long p3), .second] [(.ref a_IS_NULL), (.ref a_IS_NULL)])) X1 hx rfl rfl rfl (pc0 := 4) (pc' := 7) (same := true) rfl (hb hby d5_4) rfl (decide_eq_true rfl) (by decide) (by decide) ?_
    refine XS.iloadN X1.here hx rfl (hb hby d5_7) rfl ?_
    show Steps p.tables e below (T1.setTop (mkF m 8 #[.val (.ref a_IS_NULL), .val (.int 0), .val (.long p2), .second, .val (.long p3), .second] [(.int 0)])) _
    exact retN X1 hx (t := .boolean) Bd.returns (by simp) (hb hby d5_8) hr
  · show QP (some (.int 0)) h0 n0 _ T1.heap _
    rw [e1]
    exact ⟨rfl, N0, rfl⟩
set_option maxRecDepth 65536 in
set_option maxHeartbeats 40000000 in
theorem rm0_98 (l : Launch) (Z : State) (a0 : Array Value) (hw : ∀ d ∈ tables_1, d.before a0 Z = true) (ws : List Jvm.Cond) (p0 : Int32) (p1 : Int32) (p2 : Int64) (p3 : Int64) (a_IS_NULL : Addr) (a_NOT_NULL : Addr) (h0 : Heap) (n0 : Nat) (Z0 : n0 ≤ h0.size) (f1 : (p0 &&& (7 : Int32)) = (6 : Int32)) (f2 : S_2 Z h0 (.ref a_IS_NULL)) (f3 : F_0 Z h0 a_IS_NULL (.int 6)) (f4 : E_0 Z h0 a_IS_NULL) (f5 : S_3 Z h0 (.ref a_NOT_NULL)) (f6 : (p1 &&& (1 : Int32)) = (0 : Int32)) (f7 : a_IS_NULL ≠ a_NOT_NULL) (f8 : E_0 Z h0 a_NOT_NULL) :
    MetFree l x (head1 (Jvm.Cond.code x code maxLocals ret :: ws) room_1) (fun a U => a = #[(.int p0), (.int p1), (.long p2), (.long p3)] ∧ Z.Warmed39 U.vm ∧ U.heap = h0) (fun _ _ _ _ _ => True) (fun _ U o U' => ∃ v L, o = .returned v ∧ QT n0 v U'.heap L ∧ FrameEnd U o U' L room_1.cells room_1.slots) := by
  refine MetFree.of_bodySF (plainFor_of_name pn_com_example_floe_floe_OperationNegatePinLaw) hisR ?_
  intro p e s m args below meth c s₁ Bd hml0 hP hK
  obtain ⟨rfl, hZ, hh⟩ := hP
  have hx := Bd.exec
  have hby := Bd.bytes
  have hml : c.maxLocals = 10 := hml0
  have hown : s.vm.findClass "com/example/floe/floe/OperationNegatePinLaw" = some m.cls := findClass_of_methodNamed Bd.named
  have hnm := (name_of_methodNamed Bd.named Bd.method).1
  have X0 : Stand p l e room_1 s m #[(.int p0), (.int p1), (.long p2), (.long p3)] below meth c s₁ [] 0 0 := Stand.of_body Bd
  have e0 : s₁.heap = h0 := by rw [← hh, Bd.state]; rfl
  have N0 := Fr.nil n0
  -- pc 1: com/example/floe/floe/OperationNegatePinLaw.pick
  obtain ⟨_, _, ⟨T1, L1, k1, n1⟩, -, X1, ⟨Lc1, hQ1, l1, y1, z1⟩, st1⟩ := Jvm.LawKit.callS X0 hx (y := M_0) hown (mvT hZ (tw_0 hw)) (mvT hZ (tw_1 hw)) (mvT hZ (tw_2 hw)) (mvT hZ (tw_3 hw)) (by decide) (backOf (W := 0) (rm1_91 l Z a0 hw [] p0 a_IS_NULL h0 n0 Z0 f1 f2) hZ (tw_3 hw) (tw_2 hw) (by decide) (by decide)) (g := (mkF m 1 #[.val (.int p0), .val (.int p1), .val (.long p2), .second, .val (.long p3), .second, .unset, .unset, .unset, .unset] [(.int p0)])) rfl (by rw [hml]; rfl) (argsL := [(.int p0)]) (rest := []) (lenOf pd_0 rfl) rfl (by show 2 * 0 + _ ≤ _; exact Nat.le_of_eq rfl) (hb hby at_1) (fun _ _ => ⟨rfl, e0, (by decide : 0 + 0 ≤ _), (by decide : 0 + 0 ≤ _)⟩)
  dsimp only [Pt.U, Pt.locs, Pt.cells, Pt.slots] at X1 l1 y1 z1 st1 hQ1
  subst l1 y1 z1
  obtain ⟨rfl, Nq1, e1⟩ := hQ1
  have N1 := Fr.app N0 Nq1
  -- pc 8: com/example/floe/floe/Expression$Operation.negate
  obtain ⟨cq2, kq2, q2a, q2b, q2c⟩ := isOf hZ e1 f4
  obtain ⟨_, _, ⟨T2, L2, k2, n2⟩, -, X2, ⟨Lc2, hQ2, l2, y2, z2⟩, st2⟩ := X1.virtualBack hx (y := M_3) (z := M_3) hown (mvT hZ (tw_7 hw)) (mvT hZ (tw_8 hw)) (notFace_of_selects (args := #[]) (mvT hZ (tw_10 hw))) (mvT hZ (tw_10 hw)) (mvT hZ (tw_9 hw)) (by decide) (backOf (W := 0) (rm2_93 l Z a0 hw [] a_IS_NULL a_NOT_NULL h0 n0 Z0 f3 f4 f5) hZ (tw_11 hw) (tw_5 hw) (by decide) (by decide)) q2a q2c (g := (mkF m 8 #[.val (.int p0), .val (.int p1), .val (.long p2), .second, .val (.long p3), .second, .val (.ref a_IS_NULL), .unset, .unset, .unset] [(.ref a_IS_NULL)])) rfl (by rw [hml]; rfl) (Steps.refl _) (argsL := []) (rest := []) (lenOf pd_2 rfl) rfl (by show 2 * 0 + _ ≤ _; exact Nat.le_of_eq rfl) (hb hby at_8) (fun _ _ => ⟨rfl, e1, (by decide : 0 + 0 ≤ _), (by decide : 0 + 0 ≤ _)⟩)
  dsimp only [Pt.U, Pt.locs, Pt.cells, Pt.slots] at X2 l2 y2 z2 st2 hQ2
  subst l2 y2 z2
  obtain ⟨rfl, Nq2, e2⟩ := hQ2
  have N2 := Fr.app N1 Nq2
  -- pc 22: com/example/floe/floe/Expression$Operation.compares
  obtain ⟨cq3, kq3, q3a, q3b, q3c⟩ := isOf hZ e2 f4
  obtain ⟨_, _, ⟨T3, L3, k3, n3⟩, -, X3, ⟨Lc3, hQ3, l3, y3, z3⟩, st3⟩ := X2.virtualBack hx (y := M_4) (z := M_4) hown (mvT hZ (tw_23 hw)) (mvT hZ (tw_24 hw)) (notFace_of_selects (args := #[]) (mvT hZ (tw_26 hw))) (mvT hZ (tw_26 hw)) (mvT hZ (tw_25 hw)) (by decide) (backOf (W := 0) (rm4_94 l Z a0 hw [] a_IS_NULL h0 n0 Z0 f2) hZ (tw_27 hw) (tw_5 hw) (by decide) (by decide)) q3a q3c (g := (mkF m 22 #[.val (.int p0), .val (.int p1), .val (.long p2), .second, .val (.long p3), .second, .val (.ref a_IS_NULL), .val (.ref a_NOT_NULL), .unset, .unset] [(.ref a_IS_NULL)])) rfl (by rw [hml]; rfl) (Steps.refl _) (argsL := []) (rest := []) (lenOf pd_3 rfl) rfl (by show 2 * 0 + _ ≤ _; exact Nat.le_of_eq rfl) (hb hby at_22) (fun _ _ => ⟨rfl, e2, (by decide : 0 + 0 ≤ _), (by decide : 0 + 0 ≤ _)⟩)
  dsimp only [Pt.U, Pt.locs, Pt.cells, Pt.slots] at X3 l3 y3 z3 st3 hQ3
  subst l3 y3 z3
  obtain ⟨rfl, Nq3, e3⟩ := hQ3
  have N3 := Fr.app N2 Nq3
  -- pc 51: com/example/floe/floe/Expression$Operation.compares
  obtain ⟨cq4, kq4, q4a, q4b, q4c⟩ := isOf hZ e3 f8
  obtain ⟨_, _, ⟨T4, L4, k4, n4⟩, -, X4, ⟨Lc4, hQ4, l4, y4, z4⟩, st4⟩ := X3.virtualBack hx (y := M_4) (z := M_4) hown (mvT hZ (tw_23 hw)) (mvT hZ (tw_24 hw)) (notFace_of_selects (args := #[]) (mvT hZ (tw_26 hw))) (mvT hZ (tw_26 hw)) (mvT hZ (tw_25 hw)) (by decide) (backOf (W := 0) (rm4_95 l Z a0 hw [] a_NOT_NULL a_IS_NULL h0 n0 Z0 f2 f7 f5) hZ (tw_27 hw) (tw_5 hw) (by decide) (by decide)) q4a q4c (g := (mkF m 51 #[.val (.int p0), .val (.int p1), .val (.long p2), .second, .val (.long p3), .second, .val (.ref a_IS_NULL), .val (.ref a_NOT_NULL), .val (.int 0), .val (.int 0)] [(.ref a_NOT_NULL)])) rfl (by rw [hml]; rfl) (Steps.refl _) (argsL := []) (rest := []) (lenOf pd_3 rfl) rfl (by show 2 * 0 + _ ≤ _; exact Nat.le_of_eq rfl) (hb hby at_51) (fun _ _ => ⟨rfl, e3, (by decide : 0 + 0 ≤ _), (by decide : 0 + 0 ≤ _)⟩)
  dsimp only [Pt.U, Pt.locs, Pt.cells, Pt.slots] at X4 l4 y4 z4 st4 hQ4
  subst l4 y4 z4
  obtain ⟨rfl, Nq4, e4⟩ := hQ4
  have N4 := Fr.app N3 Nq4
  -- pc 68: com/example/floe/floe/OperationNegatePinLaw.holds
  obtain ⟨_, _, ⟨T5, L5, k5, n5⟩, -, X5, ⟨Lc5, hQ5, l5, y5, z5⟩, st5⟩ := Jvm.LawKit.callS X4 hx (y := M_5) hown (mvT hZ (tw_32 hw)) (mvT hZ (tw_33 hw)) (mvT hZ (tw_2 hw)) (mvT hZ (tw_34 hw)) (by decide) (backOf (W := 0) (rm5_96 l Z a0 hw [] a_NOT_NULL p2 p3 a_IS_NULL h0 n0 Z0 f2 (Ne.symm f7) f5) hZ (tw_34 hw) (tw_2 hw) (by decide) (by decide)) (g := (mkF m 68 #[.val (.int p0), .val (.int p1), .val (.long p2), .second, .val (.long p3), .second, .val (.ref a_IS_NULL), .val (.ref a_NOT_NULL), .val (.int 0), .val (.int 0)] [(.long p3), (.long p2), (.int 0), (.ref a_NOT_NULL)])) rfl (by rw [hml]; rfl) (argsL := [(.ref a_NOT_NULL), (.int 0), (.long p2), (.long p3)]) (rest := []) (lenOf pd_4 rfl) rfl (by show 2 * 0 + _ ≤ _; exact Nat.le_of_eq rfl) (hb hby at_68) (fun _ _ => ⟨rfl, e4, (by decide : 0 + 0 ≤ _), (by decide : 0 + 0 ≤ _)⟩)
  dsimp only [Pt.U, Pt.locs, Pt.cells, Pt.slots] at X5 l5 y5 z5 st5 hQ5
  subst l5 y5 z5
  obtain ⟨rfl, Nq5, e5⟩ := hQ5
  have N5 := Fr.app N4 Nq5
  -- pc 78: com/example/floe/floe/OperationNegatePinLaw.holds
  obtain ⟨_, _, ⟨T6, L6, k6, n6⟩, -, X6, ⟨Lc6, hQ6, l6, y6, z6⟩, st6⟩ := Jvm.LawKit.callS X5 hx (y := M_5) hown (mvT hZ (tw_32 hw)) (mvT hZ (tw_33 hw)) (mvT hZ (tw_2 hw)) (mvT hZ (tw_34 hw)) (by decide) (backOf (W := 1) (rm5_97 l Z a0 hw [] a_IS_NULL p2 p3 h0 n0 Z0 f2) hZ (tw_34 hw) (tw_2 hw) (by decide) (by decide)) (g := (mkF m 78 #[.val (.int p0), .val (.int p1), .val (.long p2), .second, .val (.long p3), .second, .val (.ref a_IS_NULL), .val (.ref a_NOT_NULL), .val (.int 0), .val (.int 0)] [(.long p3), (.long p2), (.int 0), (.ref a_IS_NULL), (.int 1)])) rfl (by rw [hml]; rfl) (argsL := [(.ref a_IS_NULL), (.int 0), (.long p2), (.long p3)]) (rest := [(.int 1)]) (lenOf pd_4 rfl) rfl (by show 2 * 0 + _ ≤ _; exact Nat.le_of_eq rfl) (hb hby at_78) (fun _ _ => ⟨rfl, e5, (by decide : 0 + 0 ≤ _), (by decide : 0 + 0 ≤ _)⟩)
  dsimp only [Pt.U, Pt.locs, Pt.cells, Pt.slots] at X6 l6 y6 z6 st6 hQ6
  subst l6 y6 z6
  obtain ⟨rfl, Nq6, e6⟩ := hQ6
  have N6 := Fr.app N5 Nq6
  obtain ⟨fs, hr, hrun, hended, hW, hsame⟩ := X6.leave (v := (some (.int 1))) (fun h => by rw [Bd.returns] at h; cases h)
  refine ⟨_, _, castTop (ef0_IIJJ m p0 p1 p2 p3) ?_, hrun, hended, _, _, rfl, ?_, ⟨_, rfl⟩, hW, hsame.mono (by decide) (by decide)⟩
  · show Steps p.tables e below (s₁.setTop (mkF m 0 #[.val (.int p0), .val (.int p1), .val (.long p2), .second, .val (.long p3), .second, .unset, .unset, .unset, .unset] [])) _
    refine XS.iloadN X0.here hx rfl (hb hby at_0) rfl ?_
    show Steps p.tables e below (s₁.setTop (mkF m 1 #[.val (.int p0), .val (.int p1), .val (.long p2), .second, .val (.long p3), .second, .unset, .unset, .unset, .unset] [(.int p0)])) _
    refine st1 _ ?_
    refine XS.astore X1.here hx rfl (hb hby at_4) rfl rfl (l' := #[.val (.int p0), .val (.int p1), .val (.long p2), .second, .val (.long p3), .second, .val (.ref a_IS_NULL), .unset, .unset, .unset]) rfl ?_
    refine XS.aload X1.here hx rfl (hb hby at_6) rfl rfl ?_
    show Steps p.tables e below (T1.setTop (mkF m 8 #[.val (.int p0), .val (.int p1), .val (.long p2), .second, .val (.long p3), .second, .val (.ref a_IS_NULL), .unset, .unset, .unset] [(.ref a_IS_NULL)])) _
    refine st2.trans ?_
    refine XS.astore X2.here hx rfl (hb hby at_11) rfl rfl (l' := #[.val (.int p0), .val (.int p1), .val (.long p2), .second, .val (.long p3), .second, .val (.ref a_IS_NULL), .val (.ref a_NOT_NULL), .unset, .unset]) rfl ?_
    refine XS.aload X2.here hx rfl (hb hby at_13) rfl rfl ?_
    refine XS.ifnonnullYes X2.here hx rfl (pc0 := 15) (pc' := 20) rfl (hb hby at_15) rfl (by decide) (by decide) ?_
    refine XS.aload X2.here hx rfl (hb hby at_20) rfl rfl ?_
    show Steps p.tables e below (T2.setTop (mkF m 22 #[.val (.int p0), .val (.int p1), .val (.long p2), .second, .val (.long p3), .second, .val (.ref a_IS_NULL), .val (.ref a_NOT_NULL), .unset, .unset] [(.ref a_IS_NULL)])) _
    refine st3.trans ?_
    refine XS.istore X3.here hx rfl (hb hby at_25) rfl (l' := #[.val (.int p0), .val (.int p1), .val (.long p2), .second, .val (.long p3), .second, .val (.ref a_IS_NULL), .val (.ref a_NOT_NULL), .val (.int 0), .unset]) rfl ?_
    refine XS.iload X3.here hx rfl (hb hby at_27) rfl ?_
    refine XS.ifYes X3.here hx rfl (pc0 := 29) (pc' := 36) rfl (hb hby at_29) rfl (by decide) (by decide) (by decide) ?_
    refine XS.iloadN X3.here hx rfl (hb hby at_36) rfl ?_
    show Steps p.tables e below (T3.setTop (mkF m 37 #[.val (.int p0), .val (.int p1), .val (.long p2), .second, .val (.long p3), .second, .val (.ref a_IS_NULL), .val (.ref a_NOT_NULL), .val (.int 0), .unset] [(.int p1)])) _
    refine XS.iconst X3.here hx rfl (hb hby at_37) ?_
    show Steps p.tables e below (T3.setTop (mkF m 38 #[.val (.int p0), .val (.int p1), .val (.long p2), .second, .val (.long p3), .second, .val (.ref a_IS_NULL), .val (.ref a_NOT_NULL), .val (.int 0), .unset] [(.int 1), (.int p1)])) _
    refine XS.iand X3.here hx rfl (hb hby at_38) rfl ?_
    show Steps p.tables e below (T3.setTop (mkF m 39 #[.val (.int p0), .val (.int p1), .val (.long p2), .second, .val (.long p3), .second, .val (.ref a_IS_NULL), .val (.ref a_NOT_NULL), .val (.int 0), .unset] [(.int (p1 &&& (1 : Int32)))])) _
    rw [f6]
    refine XS.ifYes X3.here hx rfl (pc0 := 39) (pc' := 46) rfl (hb hby at_39) rfl (by decide) (by decide) (by decide) ?_
    refine XS.iconst X3.here hx rfl (hb hby at_46) ?_
    refine XS.istore X3.here hx rfl (hb hby at_47) rfl (l' := #[.val (.int p0), .val (.int p1), .val (.long p2), .second, .val (.long p3), .second, .val (.ref a_IS_NULL), .val (.ref a_NOT_NULL), .val (.int 0), .val (.int 0)]) rfl ?_
    refine XS.aload X3.here hx rfl (hb hby at_49) rfl rfl ?_
    show Steps p.tables e below (T3.setTop (mkF m 51 #[.val (.int p0), .val (.int p1), .val (.long p2), .second, .val (.long p3), .second, .val (.ref a_IS_NULL), .val (.ref a_NOT_NULL), .val (.int 0), .val (.int 0)] [(.ref a_NOT_NULL)])) _
    refine st4.trans ?_
    refine XS.iload X4.here hx rfl (hb hby at_54) rfl ?_
    refine XS.icmpYes X4.here hx rfl (pc0 := 56) (pc' := 61) rfl (hb hby at_56) rfl (by decide) (by decide) (by decide) ?_
    refine XS.aload X4.here hx rfl (hb hby at_61) rfl rfl ?_
    refine XS.iload X4.here hx rfl (hb hby at_63) rfl ?_
    show Steps p.tables e below (T4.setTop (mkF m 65 #[.val (.int p0), .val (.int p1), .val (.long p2), .second, .val (.long p3), .second, .val (.ref a_IS_NULL), .val (.ref a_NOT_NULL), .val (.int 0), .val (.int 0)] [(.int 0), (.ref a_NOT_NULL)])) _
    refine XS.lloadN X4.here hx rfl (hb hby at_65) rfl ?_
    refine XS.lload X4.here hx rfl (hb hby at_66) rfl ?_
    show Steps p.tables e below (T4.setTop (mkF m 68 #[.val (.int p0), .val (.int p1), .val (.long p2), .second, .val (.long p3), .second, .val (.ref a_IS_NULL), .val (.ref a_NOT_NULL), .val (.int 0), .val (.int 0)] [(.long p3), (.long p2), (.int 0), (.ref a_NOT_NULL)])) _
    refine st5 _ ?_
    refine XS.aload X5.here hx rfl (hb hby at_71) rfl rfl ?_
    refine XS.iload X5.here hx rfl (hb hby at_73) rfl ?_
    refine XS.lloadN X5.here hx rfl (hb hby at_75) rfl ?_
    refine XS.lload X5.here hx rfl (hb hby at_76) rfl ?_
    show Steps p.tables e below (T5.setTop (mkF m 78 #[.val (.int p0), .val (.int p1), .val (.long p2), .second, .val (.long p3), .second, .val (.ref a_IS_NULL), .val (.ref a_NOT_NULL), .val (.int 0), .val (.int 0)] [(.long p3), (.long p2), (.int 0), (.ref a_IS_NULL), (.int 1)])) _
    refine st6 _ ?_
    refine XS.icmpNo X6.here hx rfl (hb hby at_81) rfl (by decide) ?_
    refine XS.iconst X6.here hx rfl (hb hby at_84) ?_
    refine XS.goto X6.here hx rfl (pc0 := 85) (pc' := 89) rfl (hb hby at_85) (by decide) (by decide) ?_
    show Steps p.tables e below (T6.setTop (mkF m 89 #[.val (.int p0), .val (.int p1), .val (.long p2), .second, .val (.long p3), .second, .val (.ref a_IS_NULL), .val (.ref a_NOT_NULL), .val (.int 0), .val (.int 0)] [(.int 1)])) _
    exact retN X6 hx (t := .boolean) Bd.returns (by simp) (hb hby at_89) hr
  · show QT n0 _ T6.heap _
    rw [e6]
    exact ⟨rfl, N6⟩
theorem d5_24 : decode method_3_code 24 = .ok (.iconst 0, 1) := by decide +kernel
set_option maxRecDepth 65536 in
set_option maxHeartbeats 40000000 in
theorem rm5_99 (l : Launch) (Z : State) (a0 : Array Value) (hw : ∀ d ∈ tables_1, d.before a0 Z = true) (ws : List Jvm.Cond) (a_NOT_NULL : Addr) (p2 : Int64) (p3 : Int64) (a_IS_NULL : Addr) (h0 : Heap) (n0 : Nat) (Z0 : n0 ≤ h0.size) (f1 : S_2 Z h0 (.ref a_IS_NULL)) (f2 : a_NOT_NULL ≠ a_IS_NULL) (f3 : S_3 Z h0 (.ref a_NOT_NULL)) :
    MetFree l M_5 (head1 (Jvm.Cond.code M_5 method_3_code 6 (some .boolean) :: ws) R_0_0_0_0) (fun a U => a = #[(.ref a_NOT_NULL), (.int 1), (.long p2), (.long p3)] ∧ Z.Warmed39 U.vm ∧ U.heap = h0) (fun _ _ _ _ _ => True) (fun _ U o U' => ∃ v L, o = .returned v ∧ QP (some (.int 0)) h0 n0 v U'.heap L ∧ FrameEnd U o U' L R_0_0_0_0.cells R_0_0_0_0.slots) := by
  refine MetFree.of_bodySF (plainFor_of_name pn_com_example_floe_floe_OperationNegatePinLaw) hisR ?_
  intro p e s m args below meth c s₁ Bd hml0 hP hK
  obtain ⟨rfl, hZ, hh⟩ := hP
  have hx := Bd.exec
  have hby := Bd.bytes
  have hml : c.maxLocals = 6 := hml0
  have hown : s.vm.findClass "com/example/floe/floe/OperationNegatePinLaw" = some m.cls := findClass_of_methodNamed Bd.named
  have hnm := (name_of_methodNamed Bd.named Bd.method).1
  have X0 : Stand p l e R_0_0_0_0 s m #[(.ref a_NOT_NULL), (.int 1), (.long p2), (.long p3)] below meth c s₁ [] 0 0 := Stand.of_body Bd
  have e0 : s₁.heap = h0 := by rw [← hh, Bd.state]; rfl
  have N0 := Fr.nil n0
  obtain ⟨T1, X1, e1, st1⟩ := getS2 X0 hx hZ hown (host := "") (Or.inl (tw_35 hw)) Via.refl e0 f1 (g := (mkF m 1 #[.val (.ref a_NOT_NULL), .val (.int 1), .val (.long p2), .second, .val (.long p3), .second] [(.ref a_NOT_NULL)])) rfl (hb hby d5_1)
  obtain ⟨T2, X2, e2, st2⟩ := getS2 X1 hx hZ hown (host := "") (Or.inl (tw_36 hw)) Via.refl e1 f3 (g := (mkF m 10 #[.val (.ref a_NOT_NULL), .val (.int 1), .val (.long p2), .second, .val (.long p3), .second] [(.ref a_NOT_NULL)])) rfl (hb hby d5_10)
  obtain ⟨fs, hr, hrun, hended, hW, hsame⟩ := X2.leave (v := (some (.int 0))) (fun h => by rw [Bd.returns] at h; cases h)
  refine ⟨_, _, castTop (ef5_RIJJ m a_NOT_NULL (1 : Int32) p2 p3) ?_, hrun, hended, _, _, rfl, ?_, ⟨_, rfl⟩, hW, hsame.mono (by decide) (by decide)⟩
  · show Steps p.tables e below (s₁.setTop (mkF m 0 #[.val (.ref a_NOT_NULL), .val (.int 1), .val (.long p2), .second, .val (.long p3), .second] [])) _
    refine XS.aloadN X0.here hx rfl (hb hby d5_0) rfl rfl ?_
    show Steps p.tables e below (s₁.setTop (mkF m 1 #[.val (.ref a_NOT_NULL), .val (.int 1), .val (.long p2), .second, .val (.long p3), .second] [(.ref a_NOT_NULL)])) _
    refine st1 _ ?_
    show Steps p.tables e below (T1.setTop (mkF m 4 #[.val (.ref a_NOT_NULL), .val (.int 1), .val (.long p2), .second, .val (.long p3), .second] [(.ref a_IS_NULL), (.ref a_NOT_NULL)])) _
    refine Jvm.RoadKit.acmp (g := (mkF m 4 #[.val (.ref a_NOT_NULL), .val (.int 1), .val (.long p2), .second, .val (.long p3), .second] [(.ref a_IS_NULL), (.ref a_NOT_NULL)])) X1 hx rfl rfl rfl (pc0 := 4) (pc' := 9) (same := false) rfl (hb hby d5_4) rfl (decide_eq_false fun q => f2 (Value.ref.inj q)) (by decide) (by decide) ?_
    refine XS.aloadN X1.here hx rfl (hb hby d5_9) rfl rfl ?_
    show Steps p.tables e below (T1.setTop (mkF m 10 #[.val (.ref a_NOT_NULL), .val (.int 1), .val (.long p2), .second, .val (.long p3), .second] [(.ref a_NOT_NULL)])) _
    refine st2 _ ?_
    show Steps p.tables e below (T2.setTop (mkF m 13 #[.val (.ref a_NOT_NULL), .val (.int 1), .val (.long p2), .second, .val (.long p3), .second] [(.ref a_NOT_NULL), (.ref a_NOT_NULL)])) _
    refine Jvm.RoadKit.acmp (g := (mkF m 13 #[.val (.ref a_NOT_NULL), .val (.int 1), .val (.long p2), .second, .val (.long p3), .second] [(.ref a_NOT_NULL), (.ref a_NOT_NULL)])) X2 hx rfl rfl rfl (pc0 := 13) (pc' := 16) (same := true) rfl (hb hby d5_13) rfl (decide_eq_true rfl) (by decide) (by decide) ?_
    refine XS.iloadN X2.here hx rfl (hb hby d5_16) rfl ?_
    refine XS.ifYes X2.here hx rfl (pc0 := 17) (pc' := 24) rfl (hb hby d5_17) rfl (by decide) (by decide) (by decide) ?_
    refine XS.iconst X2.here hx rfl (hb hby d5_24) ?_
    show Steps p.tables e below (T2.setTop (mkF m 25 #[.val (.ref a_NOT_NULL), .val (.int 1), .val (.long p2), .second, .val (.long p3), .second] [(.int 0)])) _
    exact retN X2 hx (t := .boolean) Bd.returns (by simp) (hb hby d5_25) hr
  · show QP (some (.int 0)) h0 n0 _ T2.heap _
    rw [e2]
    exact ⟨rfl, N0, rfl⟩
set_option maxRecDepth 65536 in
set_option maxHeartbeats 40000000 in
theorem rm5_100 (l : Launch) (Z : State) (a0 : Array Value) (hw : ∀ d ∈ tables_1, d.before a0 Z = true) (ws : List Jvm.Cond) (a_IS_NULL : Addr) (p2 : Int64) (p3 : Int64) (h0 : Heap) (n0 : Nat) (Z0 : n0 ≤ h0.size) (f1 : S_2 Z h0 (.ref a_IS_NULL)) :
    MetFree l M_5 (head1 (Jvm.Cond.code M_5 method_3_code 6 (some .boolean) :: ws) R_0_0_0_0) (fun a U => a = #[(.ref a_IS_NULL), (.int 1), (.long p2), (.long p3)] ∧ Z.Warmed39 U.vm ∧ U.heap = h0) (fun _ _ _ _ _ => True) (fun _ U o U' => ∃ v L, o = .returned v ∧ QP (some (.int 1)) h0 n0 v U'.heap L ∧ FrameEnd U o U' L R_0_0_0_0.cells R_0_0_0_0.slots) := by
  refine MetFree.of_bodySF (plainFor_of_name pn_com_example_floe_floe_OperationNegatePinLaw) hisR ?_
  intro p e s m args below meth c s₁ Bd hml0 hP hK
  obtain ⟨rfl, hZ, hh⟩ := hP
  have hx := Bd.exec
  have hby := Bd.bytes
  have hml : c.maxLocals = 6 := hml0
  have hown : s.vm.findClass "com/example/floe/floe/OperationNegatePinLaw" = some m.cls := findClass_of_methodNamed Bd.named
  have hnm := (name_of_methodNamed Bd.named Bd.method).1
  have X0 : Stand p l e R_0_0_0_0 s m #[(.ref a_IS_NULL), (.int 1), (.long p2), (.long p3)] below meth c s₁ [] 0 0 := Stand.of_body Bd
  have e0 : s₁.heap = h0 := by rw [← hh, Bd.state]; rfl
  have N0 := Fr.nil n0
  obtain ⟨T1, X1, e1, st1⟩ := getS2 X0 hx hZ hown (host := "") (Or.inl (tw_35 hw)) Via.refl e0 f1 (g := (mkF m 1 #[.val (.ref a_IS_NULL), .val (.int 1), .val (.long p2), .second, .val (.long p3), .second] [(.ref a_IS_NULL)])) rfl (hb hby d5_1)
  obtain ⟨fs, hr, hrun, hended, hW, hsame⟩ := X1.leave (v := (some (.int 1))) (fun h => by rw [Bd.returns] at h; cases h)
  refine ⟨_, _, castTop (ef5_RIJJ m a_IS_NULL (1 : Int32) p2 p3) ?_, hrun, hended, _, _, rfl, ?_, ⟨_, rfl⟩, hW, hsame.mono (by decide) (by decide)⟩
  · show Steps p.tables e below (s₁.setTop (mkF m 0 #[.val (.ref a_IS_NULL), .val (.int 1), .val (.long p2), .second, .val (.long p3), .second] [])) _
    refine XS.aloadN X0.here hx rfl (hb hby d5_0) rfl rfl ?_
    show Steps p.tables e below (s₁.setTop (mkF m 1 #[.val (.ref a_IS_NULL), .val (.int 1), .val (.long p2), .second, .val (.long p3), .second] [(.ref a_IS_NULL)])) _
    refine st1 _ ?_
    show Steps p.tables e below (T1.setTop (mkF m 4 #[.val (.ref a_IS_NULL), .val (.int 1), .val (.long p2), .second, .val (.long p3), .second] [(.ref a_IS_NULL), (.ref a_IS_NULL)])) _
    refine Jvm.RoadKit.acmp (g := (mkF m 4 #[.val (.ref a_IS_NULL), .val (.int 1), .val (.long p2), .second, .val (.long p3), .second] [(.ref a_IS_NULL), (.ref a_IS_NULL)])) X1 hx rfl rfl rfl (pc0 := 4) (pc' := 7) (same := true) rfl (hb hby d5_4) rfl (decide_eq_true rfl) (by decide) (by decide) ?_
    refine XS.iloadN X1.here hx rfl (hb hby d5_7) rfl ?_
    show Steps p.tables e below (T1.setTop (mkF m 8 #[.val (.ref a_IS_NULL), .val (.int 1), .val (.long p2), .second, .val (.long p3), .second] [(.int 1)])) _
    exact retN X1 hx (t := .boolean) Bd.returns (by simp) (hb hby d5_8) hr
  · show QP (some (.int 1)) h0 n0 _ T1.heap _
    rw [e1]
    exact ⟨rfl, N0, rfl⟩
set_option maxRecDepth 65536 in
set_option maxHeartbeats 40000000 in
theorem rm0_101 (l : Launch) (Z : State) (a0 : Array Value) (hw : ∀ d ∈ tables_1, d.before a0 Z = true) (ws : List Jvm.Cond) (p0 : Int32) (p1 : Int32) (p2 : Int64) (p3 : Int64) (a_IS_NULL : Addr) (a_NOT_NULL : Addr) (h0 : Heap) (n0 : Nat) (Z0 : n0 ≤ h0.size) (f1 : (p0 &&& (7 : Int32)) = (6 : Int32)) (f2 : S_2 Z h0 (.ref a_IS_NULL)) (f3 : F_0 Z h0 a_IS_NULL (.int 6)) (f4 : E_0 Z h0 a_IS_NULL) (f5 : S_3 Z h0 (.ref a_NOT_NULL)) (f6 : (p1 &&& (1 : Int32)) = (1 : Int32)) (f7 : a_IS_NULL ≠ a_NOT_NULL) (f8 : E_0 Z h0 a_NOT_NULL) :
    MetFree l x (head1 (Jvm.Cond.code x code maxLocals ret :: ws) room_1) (fun a U => a = #[(.int p0), (.int p1), (.long p2), (.long p3)] ∧ Z.Warmed39 U.vm ∧ U.heap = h0) (fun _ _ _ _ _ => True) (fun _ U o U' => ∃ v L, o = .returned v ∧ QT n0 v U'.heap L ∧ FrameEnd U o U' L room_1.cells room_1.slots) := by
  refine MetFree.of_bodySF (plainFor_of_name pn_com_example_floe_floe_OperationNegatePinLaw) hisR ?_
  intro p e s m args below meth c s₁ Bd hml0 hP hK
  obtain ⟨rfl, hZ, hh⟩ := hP
  have hx := Bd.exec
  have hby := Bd.bytes
  have hml : c.maxLocals = 10 := hml0
  have hown : s.vm.findClass "com/example/floe/floe/OperationNegatePinLaw" = some m.cls := findClass_of_methodNamed Bd.named
  have hnm := (name_of_methodNamed Bd.named Bd.method).1
  have X0 : Stand p l e room_1 s m #[(.int p0), (.int p1), (.long p2), (.long p3)] below meth c s₁ [] 0 0 := Stand.of_body Bd
  have e0 : s₁.heap = h0 := by rw [← hh, Bd.state]; rfl
  have N0 := Fr.nil n0
  -- pc 1: com/example/floe/floe/OperationNegatePinLaw.pick
  obtain ⟨_, _, ⟨T1, L1, k1, n1⟩, -, X1, ⟨Lc1, hQ1, l1, y1, z1⟩, st1⟩ := Jvm.LawKit.callS X0 hx (y := M_0) hown (mvT hZ (tw_0 hw)) (mvT hZ (tw_1 hw)) (mvT hZ (tw_2 hw)) (mvT hZ (tw_3 hw)) (by decide) (backOf (W := 0) (rm1_91 l Z a0 hw [] p0 a_IS_NULL h0 n0 Z0 f1 f2) hZ (tw_3 hw) (tw_2 hw) (by decide) (by decide)) (g := (mkF m 1 #[.val (.int p0), .val (.int p1), .val (.long p2), .second, .val (.long p3), .second, .unset, .unset, .unset, .unset] [(.int p0)])) rfl (by rw [hml]; rfl) (argsL := [(.int p0)]) (rest := []) (lenOf pd_0 rfl) rfl (by show 2 * 0 + _ ≤ _; exact Nat.le_of_eq rfl) (hb hby at_1) (fun _ _ => ⟨rfl, e0, (by decide : 0 + 0 ≤ _), (by decide : 0 + 0 ≤ _)⟩)
  dsimp only [Pt.U, Pt.locs, Pt.cells, Pt.slots] at X1 l1 y1 z1 st1 hQ1
  subst l1 y1 z1
  obtain ⟨rfl, Nq1, e1⟩ := hQ1
  have N1 := Fr.app N0 Nq1
  -- pc 8: com/example/floe/floe/Expression$Operation.negate
  obtain ⟨cq2, kq2, q2a, q2b, q2c⟩ := isOf hZ e1 f4
  obtain ⟨_, _, ⟨T2, L2, k2, n2⟩, -, X2, ⟨Lc2, hQ2, l2, y2, z2⟩, st2⟩ := X1.virtualBack hx (y := M_3) (z := M_3) hown (mvT hZ (tw_7 hw)) (mvT hZ (tw_8 hw)) (notFace_of_selects (args := #[]) (mvT hZ (tw_10 hw))) (mvT hZ (tw_10 hw)) (mvT hZ (tw_9 hw)) (by decide) (backOf (W := 0) (rm2_93 l Z a0 hw [] a_IS_NULL a_NOT_NULL h0 n0 Z0 f3 f4 f5) hZ (tw_11 hw) (tw_5 hw) (by decide) (by decide)) q2a q2c (g := (mkF m 8 #[.val (.int p0), .val (.int p1), .val (.long p2), .second, .val (.long p3), .second, .val (.ref a_IS_NULL), .unset, .unset, .unset] [(.ref a_IS_NULL)])) rfl (by rw [hml]; rfl) (Steps.refl _) (argsL := []) (rest := []) (lenOf pd_2 rfl) rfl (by show 2 * 0 + _ ≤ _; exact Nat.le_of_eq rfl) (hb hby at_8) (fun _ _ => ⟨rfl, e1, (by decide : 0 + 0 ≤ _), (by decide : 0 + 0 ≤ _)⟩)
  dsimp only [Pt.U, Pt.locs, Pt.cells, Pt.slots] at X2 l2 y2 z2 st2 hQ2
  subst l2 y2 z2
  obtain ⟨rfl, Nq2, e2⟩ := hQ2
  have N2 := Fr.app N1 Nq2
  -- pc 22: com/example/floe/floe/Expression$Operation.compares
  obtain ⟨cq3, kq3, q3a, q3b, q3c⟩ := isOf hZ e2 f4
  obtain ⟨_, _, ⟨T3, L3, k3, n3⟩, -, X3, ⟨Lc3, hQ3, l3, y3, z3⟩, st3⟩ := X2.virtualBack hx (y := M_4) (z := M_4) hown (mvT hZ (tw_23 hw)) (mvT hZ (tw_24 hw)) (notFace_of_selects (args := #[]) (mvT hZ (tw_26 hw))) (mvT hZ (tw_26 hw)) (mvT hZ (tw_25 hw)) (by decide) (backOf (W := 0) (rm4_94 l Z a0 hw [] a_IS_NULL h0 n0 Z0 f2) hZ (tw_27 hw) (tw_5 hw) (by decide) (by decide)) q3a q3c (g := (mkF m 22 #[.val (.int p0), .val (.int p1), .val (.long p2), .second, .val (.long p3), .second, .val (.ref a_IS_NULL), .val (.ref a_NOT_NULL), .unset, .unset] [(.ref a_IS_NULL)])) rfl (by rw [hml]; rfl) (Steps.refl _) (argsL := []) (rest := []) (lenOf pd_3 rfl) rfl (by show 2 * 0 + _ ≤ _; exact Nat.le_of_eq rfl) (hb hby at_22) (fun _ _ => ⟨rfl, e2, (by decide : 0 + 0 ≤ _), (by decide : 0 + 0 ≤ _)⟩)
  dsimp only [Pt.U, Pt.locs, Pt.cells, Pt.slots] at X3 l3 y3 z3 st3 hQ3
  subst l3 y3 z3
  obtain ⟨rfl, Nq3, e3⟩ := hQ3
  have N3 := Fr.app N2 Nq3
  -- pc 51: com/example/floe/floe/Expression$Operation.compares
  obtain ⟨cq4, kq4, q4a, q4b, q4c⟩ := isOf hZ e3 f8
  obtain ⟨_, _, ⟨T4, L4, k4, n4⟩, -, X4, ⟨Lc4, hQ4, l4, y4, z4⟩, st4⟩ := X3.virtualBack hx (y := M_4) (z := M_4) hown (mvT hZ (tw_23 hw)) (mvT hZ (tw_24 hw)) (notFace_of_selects (args := #[]) (mvT hZ (tw_26 hw))) (mvT hZ (tw_26 hw)) (mvT hZ (tw_25 hw)) (by decide) (backOf (W := 0) (rm4_95 l Z a0 hw [] a_NOT_NULL a_IS_NULL h0 n0 Z0 f2 f7 f5) hZ (tw_27 hw) (tw_5 hw) (by decide) (by decide)) q4a q4c (g := (mkF m 51 #[.val (.int p0), .val (.int p1), .val (.long p2), .second, .val (.long p3), .second, .val (.ref a_IS_NULL), .val (.ref a_NOT_NULL), .val (.int 0), .val (.int 1)] [(.ref a_NOT_NULL)])) rfl (by rw [hml]; rfl) (Steps.refl _) (argsL := []) (rest := []) (lenOf pd_3 rfl) rfl (by show 2 * 0 + _ ≤ _; exact Nat.le_of_eq rfl) (hb hby at_51) (fun _ _ => ⟨rfl, e3, (by decide : 0 + 0 ≤ _), (by decide : 0 + 0 ≤ _)⟩)
  dsimp only [Pt.U, Pt.locs, Pt.cells, Pt.slots] at X4 l4 y4 z4 st4 hQ4
  subst l4 y4 z4
  obtain ⟨rfl, Nq4, e4⟩ := hQ4
  have N4 := Fr.app N3 Nq4
  -- pc 68: com/example/floe/floe/OperationNegatePinLaw.holds
  obtain ⟨_, _, ⟨T5, L5, k5, n5⟩, -, X5, ⟨Lc5, hQ5, l5, y5, z5⟩, st5⟩ := Jvm.LawKit.callS X4 hx (y := M_5) hown (mvT hZ (tw_32 hw)) (mvT hZ (tw_33 hw)) (mvT hZ (tw_2 hw)) (mvT hZ (tw_34 hw)) (by decide) (backOf (W := 0) (rm5_99 l Z a0 hw [] a_NOT_NULL p2 p3 a_IS_NULL h0 n0 Z0 f2 (Ne.symm f7) f5) hZ (tw_34 hw) (tw_2 hw) (by decide) (by decide)) (g := (mkF m 68 #[.val (.int p0), .val (.int p1), .val (.long p2), .second, .val (.long p3), .second, .val (.ref a_IS_NULL), .val (.ref a_NOT_NULL), .val (.int 0), .val (.int 1)] [(.long p3), (.long p2), (.int 1), (.ref a_NOT_NULL)])) rfl (by rw [hml]; rfl) (argsL := [(.ref a_NOT_NULL), (.int 1), (.long p2), (.long p3)]) (rest := []) (lenOf pd_4 rfl) rfl (by show 2 * 0 + _ ≤ _; exact Nat.le_of_eq rfl) (hb hby at_68) (fun _ _ => ⟨rfl, e4, (by decide : 0 + 0 ≤ _), (by decide : 0 + 0 ≤ _)⟩)
  dsimp only [Pt.U, Pt.locs, Pt.cells, Pt.slots] at X5 l5 y5 z5 st5 hQ5
  subst l5 y5 z5
  obtain ⟨rfl, Nq5, e5⟩ := hQ5
  have N5 := Fr.app N4 Nq5
  -- pc 78: com/example/floe/floe/OperationNegatePinLaw.holds
  obtain ⟨_, _, ⟨T6, L6, k6, n6⟩, -, X6, ⟨Lc6, hQ6, l6, y6, z6⟩, st6⟩ := Jvm.LawKit.callS X5 hx (y := M_5) hown (mvT hZ (tw_32 hw)) (mvT hZ (tw_33 hw)) (mvT hZ (tw_2 hw)) (mvT hZ (tw_34 hw)) (by decide) (backOf (W := 1) (rm5_100 l Z a0 hw [] a_IS_NULL p2 p3 h0 n0 Z0 f2) hZ (tw_34 hw) (tw_2 hw) (by decide) (by decide)) (g := (mkF m 78 #[.val (.int p0), .val (.int p1), .val (.long p2), .second, .val (.long p3), .second, .val (.ref a_IS_NULL), .val (.ref a_NOT_NULL), .val (.int 0), .val (.int 1)] [(.long p3), (.long p2), (.int 1), (.ref a_IS_NULL), (.int 0)])) rfl (by rw [hml]; rfl) (argsL := [(.ref a_IS_NULL), (.int 1), (.long p2), (.long p3)]) (rest := [(.int 0)]) (lenOf pd_4 rfl) rfl (by show 2 * 0 + _ ≤ _; exact Nat.le_of_eq rfl) (hb hby at_78) (fun _ _ => ⟨rfl, e5, (by decide : 0 + 0 ≤ _), (by decide : 0 + 0 ≤ _)⟩)
  dsimp only [Pt.U, Pt.locs, Pt.cells, Pt.slots] at X6 l6 y6 z6 st6 hQ6
  subst l6 y6 z6
  obtain ⟨rfl, Nq6, e6⟩ := hQ6
  have N6 := Fr.app N5 Nq6
  obtain ⟨fs, hr, hrun, hended, hW, hsame⟩ := X6.leave (v := (some (.int 1))) (fun h => by rw [Bd.returns] at h; cases h)
  refine ⟨_, _, castTop (ef0_IIJJ m p0 p1 p2 p3) ?_, hrun, hended, _, _, rfl, ?_, ⟨_, rfl⟩, hW, hsame.mono (by decide) (by decide)⟩
  · show Steps p.tables e below (s₁.setTop (mkF m 0 #[.val (.int p0), .val (.int p1), .val (.long p2), .second, .val (.long p3), .second, .unset, .unset, .unset, .unset] [])) _
    refine XS.iloadN X0.here hx rfl (hb hby at_0) rfl ?_
    show Steps p.tables e below (s₁.setTop (mkF m 1 #[.val (.int p0), .val (.int p1), .val (.long p2), .second, .val (.long p3), .second, .unset, .unset, .unset, .unset] [(.int p0)])) _
    refine st1 _ ?_
    refine XS.astore X1.here hx rfl (hb hby at_4) rfl rfl (l' := #[.val (.int p0), .val (.int p1), .val (.long p2), .second, .val (.long p3), .second, .val (.ref a_IS_NULL), .unset, .unset, .unset]) rfl ?_
    refine XS.aload X1.here hx rfl (hb hby at_6) rfl rfl ?_
    show Steps p.tables e below (T1.setTop (mkF m 8 #[.val (.int p0), .val (.int p1), .val (.long p2), .second, .val (.long p3), .second, .val (.ref a_IS_NULL), .unset, .unset, .unset] [(.ref a_IS_NULL)])) _
    refine st2.trans ?_
    refine XS.astore X2.here hx rfl (hb hby at_11) rfl rfl (l' := #[.val (.int p0), .val (.int p1), .val (.long p2), .second, .val (.long p3), .second, .val (.ref a_IS_NULL), .val (.ref a_NOT_NULL), .unset, .unset]) rfl ?_
    refine XS.aload X2.here hx rfl (hb hby at_13) rfl rfl ?_
    refine XS.ifnonnullYes X2.here hx rfl (pc0 := 15) (pc' := 20) rfl (hb hby at_15) rfl (by decide) (by decide) ?_
    refine XS.aload X2.here hx rfl (hb hby at_20) rfl rfl ?_
    show Steps p.tables e below (T2.setTop (mkF m 22 #[.val (.int p0), .val (.int p1), .val (.long p2), .second, .val (.long p3), .second, .val (.ref a_IS_NULL), .val (.ref a_NOT_NULL), .unset, .unset] [(.ref a_IS_NULL)])) _
    refine st3.trans ?_
    refine XS.istore X3.here hx rfl (hb hby at_25) rfl (l' := #[.val (.int p0), .val (.int p1), .val (.long p2), .second, .val (.long p3), .second, .val (.ref a_IS_NULL), .val (.ref a_NOT_NULL), .val (.int 0), .unset]) rfl ?_
    refine XS.iload X3.here hx rfl (hb hby at_27) rfl ?_
    refine XS.ifYes X3.here hx rfl (pc0 := 29) (pc' := 36) rfl (hb hby at_29) rfl (by decide) (by decide) (by decide) ?_
    refine XS.iloadN X3.here hx rfl (hb hby at_36) rfl ?_
    show Steps p.tables e below (T3.setTop (mkF m 37 #[.val (.int p0), .val (.int p1), .val (.long p2), .second, .val (.long p3), .second, .val (.ref a_IS_NULL), .val (.ref a_NOT_NULL), .val (.int 0), .unset] [(.int p1)])) _
    refine XS.iconst X3.here hx rfl (hb hby at_37) ?_
    show Steps p.tables e below (T3.setTop (mkF m 38 #[.val (.int p0), .val (.int p1), .val (.long p2), .second, .val (.long p3), .second, .val (.ref a_IS_NULL), .val (.ref a_NOT_NULL), .val (.int 0), .unset] [(.int 1), (.int p1)])) _
    refine XS.iand X3.here hx rfl (hb hby at_38) rfl ?_
    show Steps p.tables e below (T3.setTop (mkF m 39 #[.val (.int p0), .val (.int p1), .val (.long p2), .second, .val (.long p3), .second, .val (.ref a_IS_NULL), .val (.ref a_NOT_NULL), .val (.int 0), .unset] [(.int (p1 &&& (1 : Int32)))])) _
    rw [f6]
    refine XS.ifNo X3.here hx rfl (hb hby at_39) rfl (by decide) ?_
    refine XS.iconst X3.here hx rfl (hb hby at_42) ?_
    refine XS.goto X3.here hx rfl (pc0 := 43) (pc' := 47) rfl (hb hby at_43) (by decide) (by decide) ?_
    refine XS.istore X3.here hx rfl (hb hby at_47) rfl (l' := #[.val (.int p0), .val (.int p1), .val (.long p2), .second, .val (.long p3), .second, .val (.ref a_IS_NULL), .val (.ref a_NOT_NULL), .val (.int 0), .val (.int 1)]) rfl ?_
    show Steps p.tables e below (T3.setTop (mkF m 49 #[.val (.int p0), .val (.int p1), .val (.long p2), .second, .val (.long p3), .second, .val (.ref a_IS_NULL), .val (.ref a_NOT_NULL), .val (.int 0), .val (.int 1)] [])) _
    refine XS.aload X3.here hx rfl (hb hby at_49) rfl rfl ?_
    show Steps p.tables e below (T3.setTop (mkF m 51 #[.val (.int p0), .val (.int p1), .val (.long p2), .second, .val (.long p3), .second, .val (.ref a_IS_NULL), .val (.ref a_NOT_NULL), .val (.int 0), .val (.int 1)] [(.ref a_NOT_NULL)])) _
    refine st4.trans ?_
    refine XS.iload X4.here hx rfl (hb hby at_54) rfl ?_
    refine XS.icmpYes X4.here hx rfl (pc0 := 56) (pc' := 61) rfl (hb hby at_56) rfl (by decide) (by decide) (by decide) ?_
    refine XS.aload X4.here hx rfl (hb hby at_61) rfl rfl ?_
    refine XS.iload X4.here hx rfl (hb hby at_63) rfl ?_
    show Steps p.tables e below (T4.setTop (mkF m 65 #[.val (.int p0), .val (.int p1), .val (.long p2), .second, .val (.long p3), .second, .val (.ref a_IS_NULL), .val (.ref a_NOT_NULL), .val (.int 0), .val (.int 1)] [(.int 1), (.ref a_NOT_NULL)])) _
    refine XS.lloadN X4.here hx rfl (hb hby at_65) rfl ?_
    refine XS.lload X4.here hx rfl (hb hby at_66) rfl ?_
    show Steps p.tables e below (T4.setTop (mkF m 68 #[.val (.int p0), .val (.int p1), .val (.long p2), .second, .val (.long p3), .second, .val (.ref a_IS_NULL), .val (.ref a_NOT_NULL), .val (.int 0), .val (.int 1)] [(.long p3), (.long p2), (.int 1), (.ref a_NOT_NULL)])) _
    refine st5 _ ?_
    refine XS.aload X5.here hx rfl (hb hby at_71) rfl rfl ?_
    refine XS.iload X5.here hx rfl (hb hby at_73) rfl ?_
    refine XS.lloadN X5.here hx rfl (hb hby at_75) rfl ?_
    refine XS.lload X5.here hx rfl (hb hby at_76) rfl ?_
    show Steps p.tables e below (T5.setTop (mkF m 78 #[.val (.int p0), .val (.int p1), .val (.long p2), .second, .val (.long p3), .second, .val (.ref a_IS_NULL), .val (.ref a_NOT_NULL), .val (.int 0), .val (.int 1)] [(.long p3), (.long p2), (.int 1), (.ref a_IS_NULL), (.int 0)])) _
    refine st6 _ ?_
    refine XS.icmpNo X6.here hx rfl (hb hby at_81) rfl (by decide) ?_
    refine XS.iconst X6.here hx rfl (hb hby at_84) ?_
    refine XS.goto X6.here hx rfl (pc0 := 85) (pc' := 89) rfl (hb hby at_85) (by decide) (by decide) ?_
    show Steps p.tables e below (T6.setTop (mkF m 89 #[.val (.int p0), .val (.int p1), .val (.long p2), .second, .val (.long p3), .second, .val (.ref a_IS_NULL), .val (.ref a_NOT_NULL), .val (.int 0), .val (.int 1)] [(.int 1)])) _
    exact retN X6 hx (t := .boolean) Bd.returns (by simp) (hb hby at_89) hr
  · show QT n0 _ T6.heap _
    rw [e6]
    exact ⟨rfl, N6⟩
theorem d1_68 : decode method_2_code 68 = .ok (.getstatic 31, 3) := by decide +kernel
theorem d1_71 : decode method_2_code 71 = .ok (.areturn, 1) := by decide +kernel
set_option maxRecDepth 65536 in
set_option maxHeartbeats 40000000 in
theorem rm1_102 (l : Launch) (Z : State) (a0 : Array Value) (hw : ∀ d ∈ tables_1, d.before a0 Z = true) (ws : List Jvm.Cond) (p0 : Int32) (a_NOT_NULL : Addr) (h0 : Heap) (n0 : Nat) (Z0 : n0 ≤ h0.size) (f1 : (p0 &&& (7 : Int32)) = (7 : Int32)) (f2 : S_3 Z h0 (.ref a_NOT_NULL)) :
    MetFree l M_0 (head1 (Jvm.Cond.code M_0 method_2_code 2 (some (.object "com/example/floe/floe/Expression$Operation")) :: ws) R_0_0_0_0) (fun a U => a = #[(.int p0)] ∧ Z.Warmed39 U.vm ∧ U.heap = h0) (fun _ _ _ _ _ => True) (fun _ U o U' => ∃ v L, o = .returned v ∧ QP (some (.ref a_NOT_NULL)) h0 n0 v U'.heap L ∧ FrameEnd U o U' L R_0_0_0_0.cells R_0_0_0_0.slots) := by
  refine MetFree.of_bodySF (plainFor_of_name pn_com_example_floe_floe_OperationNegatePinLaw) hisR ?_
  intro p e s m args below meth c s₁ Bd hml0 hP hK
  obtain ⟨rfl, hZ, hh⟩ := hP
  have hx := Bd.exec
  have hby := Bd.bytes
  have hml : c.maxLocals = 2 := hml0
  have hown : s.vm.findClass "com/example/floe/floe/OperationNegatePinLaw" = some m.cls := findClass_of_methodNamed Bd.named
  have hnm := (name_of_methodNamed Bd.named Bd.method).1
  have X0 : Stand p l e R_0_0_0_0 s m #[(.int p0)] below meth c s₁ [] 0 0 := Stand.of_body Bd
  have e0 : s₁.heap = h0 := by rw [← hh, Bd.state]; rfl
  have N0 := Fr.nil n0
  obtain ⟨T1, X1, e1, st1⟩ := getS2 X0 hx hZ hown (host := "") (Or.inl (tw_36 hw)) Via.refl e0 f2 (g := (mkF m 68 #[.val (.int p0), .val (.int 7)] [])) rfl (hb hby d1_68)
  obtain ⟨fs, hr, hrun, hended, hW, hsame⟩ := X1.leave (v := (some (.ref a_NOT_NULL))) (fun h => by rw [Bd.returns] at h; cases h)
  refine ⟨_, _, castTop (ef1_I m p0) ?_, hrun, hended, _, _, rfl, ?_, ⟨_, rfl⟩, hW, hsame.mono (by decide) (by decide)⟩
  · show Steps p.tables e below (s₁.setTop (mkF m 0 #[.val (.int p0), .unset] [])) _
    refine XS.iloadN X0.here hx rfl (hb hby d1_0) rfl ?_
    refine XS.bipush X0.here hx rfl (hb hby d1_1) ?_
    show Steps p.tables e below (s₁.setTop (mkF m 3 #[.val (.int p0), .unset] [(.int 7), (.int p0)])) _
    refine XS.iand X0.here hx rfl (hb hby d1_3) rfl ?_
    show Steps p.tables e below (s₁.setTop (mkF m 4 #[.val (.int p0), .unset] [(.int (p0 &&& (7 : Int32)))])) _
    rw [f1]
    refine XS.istoreN X0.here hx rfl (hb hby d1_4) rfl (l' := #[.val (.int p0), .val (.int 7)]) rfl ?_
    refine XS.iloadN X0.here hx rfl (hb hby d1_5) rfl ?_
    refine XS.ifYes X0.here hx rfl (pc0 := 6) (pc' := 13) rfl (hb hby d1_6) rfl (by decide) (by decide) (by decide) ?_
    refine XS.iloadN X0.here hx rfl (hb hby d1_13) rfl ?_
    show Steps p.tables e below (s₁.setTop (mkF m 14 #[.val (.int p0), .val (.int 7)] [(.int 7)])) _
    refine XS.iconst X0.here hx rfl (hb hby d1_14) ?_
    refine XS.icmpYes X0.here hx rfl (pc0 := 15) (pc' := 22) rfl (hb hby d1_15) rfl (by decide) (by decide) (by decide) ?_
    refine XS.iloadN X0.here hx rfl (hb hby d1_22) rfl ?_
    refine XS.iconst X0.here hx rfl (hb hby d1_23) ?_
    refine XS.icmpYes X0.here hx rfl (pc0 := 24) (pc' := 31) rfl (hb hby d1_24) rfl (by decide) (by decide) (by decide) ?_
    show Steps p.tables e below (s₁.setTop (mkF m 31 #[.val (.int p0), .val (.int 7)] [])) _
    refine XS.iloadN X0.here hx rfl (hb hby d1_31) rfl ?_
    refine XS.iconst X0.here hx rfl (hb hby d1_32) ?_
    refine XS.icmpYes X0.here hx rfl (pc0 := 33) (pc' := 40) rfl (hb hby d1_33) rfl (by decide) (by decide) (by decide) ?_
    refine XS.iloadN X0.here hx rfl (hb hby d1_40) rfl ?_
    refine XS.iconst X0.here hx rfl (hb hby d1_41) ?_
    show Steps p.tables e below (s₁.setTop (mkF m 42 #[.val (.int p0), .val (.int 7)] [(.int 4), (.int 7)])) _
    refine XS.icmpYes X0.here hx rfl (pc0 := 42) (pc' := 49) rfl (hb hby d1_42) rfl (by decide) (by decide) (by decide) ?_
    refine XS.iloadN X0.here hx rfl (hb hby d1_49) rfl ?_
    refine XS.iconst X0.here hx rfl (hb hby d1_50) ?_
    refine XS.icmpYes X0.here hx rfl (pc0 := 51) (pc' := 58) rfl (hb hby d1_51) rfl (by decide) (by decide) (by decide) ?_
    refine XS.iloadN X0.here hx rfl (hb hby d1_58) rfl ?_
    show Steps p.tables e below (s₁.setTop (mkF m 59 #[.val (.int p0), .val (.int 7)] [(.int 7)])) _
    refine XS.bipush X0.here hx rfl (hb hby d1_59) ?_
    refine XS.icmpYes X0.here hx rfl (pc0 := 61) (pc' := 68) rfl (hb hby d1_61) rfl (by decide) (by decide) (by decide) ?_
    show Steps p.tables e below (s₁.setTop (mkF m 68 #[.val (.int p0), .val (.int 7)] [])) _
    refine st1 _ ?_
    show Steps p.tables e below (T1.setTop (mkF m 71 #[.val (.int p0), .val (.int 7)] [(.ref a_NOT_NULL)])) _
    jvm_step X1.here [X1.here.top, hx, (hb hby d1_71), X1.method', Bd.returns, Value.isRef, FieldType.isReference]
    first | (intro acts; rw [hr _ acts rfl rfl rfl]) | rw [hr _ _ rfl rfl rfl]
    exact Steps.refl _
  · show QP (some (.ref a_NOT_NULL)) h0 n0 _ T1.heap _
    rw [e1]
    exact ⟨rfl, N0, rfl⟩
set_option maxRecDepth 65536 in
set_option maxHeartbeats 40000000 in
theorem rm3_103 (l : Launch) (Z : State) (a0 : Array Value) (hw : ∀ d ∈ tables_1, d.before a0 Z = true) (ws : List Jvm.Cond) (a_NOT_NULL : Addr) (h0 : Heap) (n0 : Nat) (Z0 : n0 ≤ h0.size) (f1 : F_0 Z h0 a_NOT_NULL (.int 7)) :
    MetFree l M_1 (head1 (Jvm.Cond.code M_1 jdk_37_method_2_code 1 (some .int) :: ws) R_0_0_0_0) (fun a U => a = #[(.ref a_NOT_NULL)] ∧ Z.Warmed39 U.vm ∧ U.heap = h0) (fun _ _ _ _ _ => True) (fun _ U o U' => ∃ v L, o = .returned v ∧ QP (some (.int 7)) h0 n0 v U'.heap L ∧ FrameEnd U o U' L R_0_0_0_0.cells R_0_0_0_0.slots) := by
  refine MetFree.of_bodySF (plainFor_of_name pn_java_lang_Enum) hisR ?_
  intro p e s m args below meth c s₁ Bd hml0 hP hK
  obtain ⟨rfl, hZ, hh⟩ := hP
  have hx := Bd.exec
  have hby := Bd.bytes
  have hml : c.maxLocals = 1 := hml0
  have hown : s.vm.findClass "java/lang/Enum" = some m.cls := findClass_of_methodNamed Bd.named
  have hnm := (name_of_methodNamed Bd.named Bd.method).1
  have X0 : Stand p l e R_0_0_0_0 s m #[(.ref a_NOT_NULL)] below meth c s₁ [] 0 0 := Stand.of_body Bd
  have e0 : s₁.heap = h0 := by rw [← hh, Bd.state]; rfl
  have N0 := Fr.nil n0
  obtain ⟨T1, X1, e1, st1⟩ := getF X0 hx hZ hown (host := "") (Or.inl (tw_19 hw)) Via.refl e0 f1 (g := (mkF m 1 #[.val (.ref a_NOT_NULL)] [(.ref a_NOT_NULL)])) rfl rfl (hb hby d3_1)
  obtain ⟨fs, hr, hrun, hended, hW, hsame⟩ := X1.leave (v := (some (.int 7))) (fun h => by rw [Bd.returns] at h; cases h)
  refine ⟨_, _, castTop (ef3_R m a_NOT_NULL) ?_, hrun, hended, _, _, rfl, ?_, ⟨_, rfl⟩, hW, hsame.mono (by decide) (by decide)⟩
  · show Steps p.tables e below (s₁.setTop (mkF m 0 #[.val (.ref a_NOT_NULL)] [])) _
    refine XS.aloadN X0.here hx rfl (hb hby d3_0) rfl rfl ?_
    show Steps p.tables e below (s₁.setTop (mkF m 1 #[.val (.ref a_NOT_NULL)] [(.ref a_NOT_NULL)])) _
    refine st1 _ ?_
    show Steps p.tables e below (T1.setTop (mkF m 4 #[.val (.ref a_NOT_NULL)] [(.int 7)])) _
    exact retI X1 hx Bd.returns (hb hby d3_4) hr
  · show QP (some (.int 7)) h0 n0 _ T1.heap _
    rw [e1]
    exact ⟨rfl, N0, rfl⟩
theorem d2_104 : decode prog_13_method_7_code 104 = .ok (.getstatic 22, 3) := by decide +kernel
set_option maxRecDepth 65536 in
set_option maxHeartbeats 40000000 in
theorem rm2_104 (l : Launch) (Z : State) (a0 : Array Value) (hw : ∀ d ∈ tables_1, d.before a0 Z = true) (ws : List Jvm.Cond) (a_NOT_NULL : Addr) (a_IS_NULL : Addr) (h0 : Heap) (n0 : Nat) (Z0 : n0 ≤ h0.size) (f1 : F_0 Z h0 a_NOT_NULL (.int 7)) (f2 : E_0 Z h0 a_NOT_NULL) (f3 : S_2 Z h0 (.ref a_IS_NULL)) :
    MetFree l M_3 (head1 (Jvm.Cond.code M_3 prog_13_method_7_code 1 (some (.object "com/example/floe/floe/Expression$Operation")) :: ws) R_1_0_0_12) (fun a U => a = #[(.ref a_NOT_NULL)] ∧ Z.Warmed39 U.vm ∧ U.heap = h0) (fun _ _ _ _ _ => True) (fun _ U o U' => ∃ v L, o = .returned v ∧ QP (some (.ref a_IS_NULL)) h0 n0 v U'.heap L ∧ FrameEnd U o U' L R_1_0_0_12.cells R_1_0_0_12.slots) := by
  refine MetFree.of_bodySF (plainFor_of_name pn_com_example_floe_floe_Expression_Operation) hisR ?_
  intro p e s m args below meth c s₁ Bd hml0 hP hK
  obtain ⟨rfl, hZ, hh⟩ := hP
  have hx := Bd.exec
  have hby := Bd.bytes
  have hml : c.maxLocals = 1 := hml0
  have hown : s.vm.findClass "com/example/floe/floe/Expression$Operation" = some m.cls := findClass_of_methodNamed Bd.named
  have hnm := (name_of_methodNamed Bd.named Bd.method).1
  have X0 : Stand p l e R_1_0_0_12 s m #[(.ref a_NOT_NULL)] below meth c s₁ [] 0 0 := Stand.of_body Bd
  have e0 : s₁.heap = h0 := by rw [← hh, Bd.state]; rfl
  have N0 := Fr.nil n0
  -- pc 1: java/lang/Enum.ordinal
  obtain ⟨cq1, kq1, q1a, q1b, q1c⟩ := isOf hZ e0 f2
  obtain ⟨_, _, ⟨T1, L1, k1, n1⟩, -, X1, ⟨Lc1, hQ1, l1, y1, z1⟩, st1⟩ := X0.virtualBackUp hx (x := M_2) (y := M_1) (owner := "java/lang/Enum") hown (mvT hZ (tw_12 hw)) (mvT hZ (tw_13 hw)) (mvT hZ (tw_14 hw)) (by decide) (mvT hZ (tw_16 hw)) (mvT hZ (tw_15 hw)) (backOf (W := 0) (rm3_103 l Z a0 hw [] a_NOT_NULL h0 n0 Z0 f1) hZ (tw_18 hw) (tw_17 hw) (by decide) (by decide)) q1a q1c (g := (mkF m 1 #[.val (.ref a_NOT_NULL)] [(.ref a_NOT_NULL)])) rfl (by rw [hml]; rfl) (Steps.refl _) (argsL := []) (rest := []) (lenOf pd_1 rfl) rfl (by show 2 * 0 + _ ≤ _; exact Nat.le_of_eq rfl) (hb hby d2_1) (fun _ _ => ⟨rfl, e0, (by decide : 0 + 0 ≤ _), (by decide : 0 + 0 ≤ _)⟩)
  dsimp only [Pt.U, Pt.locs, Pt.cells, Pt.slots] at X1 l1 y1 z1 st1 hQ1
  subst l1 y1 z1
  obtain ⟨rfl, Nq1, e1⟩ := hQ1
  have N1 := Fr.app N0 Nq1
  obtain ⟨T2, X2, e2, st2⟩ := getS2 X1 hx hZ hown (host := "") (Or.inl (tw_28 hw)) Via.refl e1 f3 (g := (mkF m 104 #[.val (.ref a_NOT_NULL)] [])) rfl (hb hby d2_104)
  obtain ⟨fs, hr, hrun, hended, hW, hsame⟩ := X2.leave (v := (some (.ref a_IS_NULL))) (fun h => by rw [Bd.returns] at h; cases h)
  refine ⟨_, _, castTop (ef2_R m a_NOT_NULL) ?_, hrun, hended, _, _, rfl, ?_, ⟨_, rfl⟩, hW, hsame.mono (by decide) (by decide)⟩
  · show Steps p.tables e below (s₁.setTop (mkF m 0 #[.val (.ref a_NOT_NULL)] [])) _
    refine XS.aloadN X0.here hx rfl (hb hby d2_0) rfl rfl ?_
    show Steps p.tables e below (s₁.setTop (mkF m 1 #[.val (.ref a_NOT_NULL)] [(.ref a_NOT_NULL)])) _
    refine st1.trans ?_
    show Steps p.tables e below (T1.setTop (mkF m 4 #[.val (.ref a_NOT_NULL)] [(.int 7)])) _
    refine XS.tswIn X1.here hx rfl (pc0 := 4) (pc' := 104) (o := 100) rfl (hb hby d2_4) rfl (by decide) (by decide) (by decide) (by decide) ?_
    show Steps p.tables e below (T1.setTop (mkF m 104 #[.val (.ref a_NOT_NULL)] [])) _
    refine st2 _ ?_
    show Steps p.tables e below (T2.setTop (mkF m 107 #[.val (.ref a_NOT_NULL)] [(.ref a_IS_NULL)])) _
    jvm_step X2.here [X2.here.top, hx, (hb hby d2_107), X2.method', Bd.returns, Value.isRef, FieldType.isReference]
    first | (intro acts; rw [hr _ acts rfl rfl rfl]) | rw [hr _ _ rfl rfl rfl]
    exact Steps.refl _
  · show QP (some (.ref a_IS_NULL)) h0 n0 _ T2.heap _
    rw [e2]
    exact ⟨rfl, N1, rfl⟩
set_option maxRecDepth 65536 in
set_option maxHeartbeats 40000000 in
theorem rm0_105 (l : Launch) (Z : State) (a0 : Array Value) (hw : ∀ d ∈ tables_1, d.before a0 Z = true) (ws : List Jvm.Cond) (p0 : Int32) (p1 : Int32) (p2 : Int64) (p3 : Int64) (a_NOT_NULL : Addr) (a_IS_NULL : Addr) (h0 : Heap) (n0 : Nat) (Z0 : n0 ≤ h0.size) (f1 : (p0 &&& (7 : Int32)) = (7 : Int32)) (f2 : S_3 Z h0 (.ref a_NOT_NULL)) (f3 : F_0 Z h0 a_NOT_NULL (.int 7)) (f4 : E_0 Z h0 a_NOT_NULL) (f5 : S_2 Z h0 (.ref a_IS_NULL)) (f6 : a_IS_NULL ≠ a_NOT_NULL) (f7 : (p1 &&& (1 : Int32)) = (0 : Int32)) (f8 : E_0 Z h0 a_IS_NULL) :
    MetFree l x (head1 (Jvm.Cond.code x code maxLocals ret :: ws) room_1) (fun a U => a = #[(.int p0), (.int p1), (.long p2), (.long p3)] ∧ Z.Warmed39 U.vm ∧ U.heap = h0) (fun _ _ _ _ _ => True) (fun _ U o U' => ∃ v L, o = .returned v ∧ QT n0 v U'.heap L ∧ FrameEnd U o U' L room_1.cells room_1.slots) := by
  refine MetFree.of_bodySF (plainFor_of_name pn_com_example_floe_floe_OperationNegatePinLaw) hisR ?_
  intro p e s m args below meth c s₁ Bd hml0 hP hK
  obtain ⟨rfl, hZ, hh⟩ := hP
  have hx := Bd.exec
  have hby := Bd.bytes
  have hml : c.maxLocals = 10 := hml0
  have hown : s.vm.findClass "com/example/floe/floe/OperationNegatePinLaw" = some m.cls := findClass_of_methodNamed Bd.named
  have hnm := (name_of_methodNamed Bd.named Bd.method).1
  have X0 : Stand p l e room_1 s m #[(.int p0), (.int p1), (.long p2), (.long p3)] below meth c s₁ [] 0 0 := Stand.of_body Bd
  have e0 : s₁.heap = h0 := by rw [← hh, Bd.state]; rfl
  have N0 := Fr.nil n0
  -- pc 1: com/example/floe/floe/OperationNegatePinLaw.pick
  obtain ⟨_, _, ⟨T1, L1, k1, n1⟩, -, X1, ⟨Lc1, hQ1, l1, y1, z1⟩, st1⟩ := Jvm.LawKit.callS X0 hx (y := M_0) hown (mvT hZ (tw_0 hw)) (mvT hZ (tw_1 hw)) (mvT hZ (tw_2 hw)) (mvT hZ (tw_3 hw)) (by decide) (backOf (W := 0) (rm1_102 l Z a0 hw [] p0 a_NOT_NULL h0 n0 Z0 f1 f2) hZ (tw_3 hw) (tw_2 hw) (by decide) (by decide)) (g := (mkF m 1 #[.val (.int p0), .val (.int p1), .val (.long p2), .second, .val (.long p3), .second, .unset, .unset, .unset, .unset] [(.int p0)])) rfl (by rw [hml]; rfl) (argsL := [(.int p0)]) (rest := []) (lenOf pd_0 rfl) rfl (by show 2 * 0 + _ ≤ _; exact Nat.le_of_eq rfl) (hb hby at_1) (fun _ _ => ⟨rfl, e0, (by decide : 0 + 0 ≤ _), (by decide : 0 + 0 ≤ _)⟩)
  dsimp only [Pt.U, Pt.locs, Pt.cells, Pt.slots] at X1 l1 y1 z1 st1 hQ1
  subst l1 y1 z1
  obtain ⟨rfl, Nq1, e1⟩ := hQ1
  have N1 := Fr.app N0 Nq1
  -- pc 8: com/example/floe/floe/Expression$Operation.negate
  obtain ⟨cq2, kq2, q2a, q2b, q2c⟩ := isOf hZ e1 f4
  obtain ⟨_, _, ⟨T2, L2, k2, n2⟩, -, X2, ⟨Lc2, hQ2, l2, y2, z2⟩, st2⟩ := X1.virtualBack hx (y := M_3) (z := M_3) hown (mvT hZ (tw_7 hw)) (mvT hZ (tw_8 hw)) (notFace_of_selects (args := #[]) (mvT hZ (tw_10 hw))) (mvT hZ (tw_10 hw)) (mvT hZ (tw_9 hw)) (by decide) (backOf (W := 0) (rm2_104 l Z a0 hw [] a_NOT_NULL a_IS_NULL h0 n0 Z0 f3 f4 f5) hZ (tw_11 hw) (tw_5 hw) (by decide) (by decide)) q2a q2c (g := (mkF m 8 #[.val (.int p0), .val (.int p1), .val (.long p2), .second, .val (.long p3), .second, .val (.ref a_NOT_NULL), .unset, .unset, .unset] [(.ref a_NOT_NULL)])) rfl (by rw [hml]; rfl) (Steps.refl _) (argsL := []) (rest := []) (lenOf pd_2 rfl) rfl (by show 2 * 0 + _ ≤ _; exact Nat.le_of_eq rfl) (hb hby at_8) (fun _ _ => ⟨rfl, e1, (by decide : 0 + 0 ≤ _), (by decide : 0 + 0 ≤ _)⟩)
  dsimp only [Pt.U, Pt.locs, Pt.cells, Pt.slots] at X2 l2 y2 z2 st2 hQ2
  subst l2 y2 z2
  obtain ⟨rfl, Nq2, e2⟩ := hQ2
  have N2 := Fr.app N1 Nq2
  -- pc 22: com/example/floe/floe/Expression$Operation.compares
  obtain ⟨cq3, kq3, q3a, q3b, q3c⟩ := isOf hZ e2 f4
  obtain ⟨_, _, ⟨T3, L3, k3, n3⟩, -, X3, ⟨Lc3, hQ3, l3, y3, z3⟩, st3⟩ := X2.virtualBack hx (y := M_4) (z := M_4) hown (mvT hZ (tw_23 hw)) (mvT hZ (tw_24 hw)) (notFace_of_selects (args := #[]) (mvT hZ (tw_26 hw))) (mvT hZ (tw_26 hw)) (mvT hZ (tw_25 hw)) (by decide) (backOf (W := 0) (rm4_95 l Z a0 hw [] a_NOT_NULL a_IS_NULL h0 n0 Z0 f5 f6 f2) hZ (tw_27 hw) (tw_5 hw) (by decide) (by decide)) q3a q3c (g := (mkF m 22 #[.val (.int p0), .val (.int p1), .val (.long p2), .second, .val (.long p3), .second, .val (.ref a_NOT_NULL), .val (.ref a_IS_NULL), .unset, .unset] [(.ref a_NOT_NULL)])) rfl (by rw [hml]; rfl) (Steps.refl _) (argsL := []) (rest := []) (lenOf pd_3 rfl) rfl (by show 2 * 0 + _ ≤ _; exact Nat.le_of_eq rfl) (hb hby at_22) (fun _ _ => ⟨rfl, e2, (by decide : 0 + 0 ≤ _), (by decide : 0 + 0 ≤ _)⟩)
  dsimp only [Pt.U, Pt.locs, Pt.cells, Pt.slots] at X3 l3 y3 z3 st3 hQ3
  subst l3 y3 z3
  obtain ⟨rfl, Nq3, e3⟩ := hQ3
  have N3 := Fr.app N2 Nq3
  -- pc 51: com/example/floe/floe/Expression$Operation.compares
  obtain ⟨cq4, kq4, q4a, q4b, q4c⟩ := isOf hZ e3 f8
  obtain ⟨_, _, ⟨T4, L4, k4, n4⟩, -, X4, ⟨Lc4, hQ4, l4, y4, z4⟩, st4⟩ := X3.virtualBack hx (y := M_4) (z := M_4) hown (mvT hZ (tw_23 hw)) (mvT hZ (tw_24 hw)) (notFace_of_selects (args := #[]) (mvT hZ (tw_26 hw))) (mvT hZ (tw_26 hw)) (mvT hZ (tw_25 hw)) (by decide) (backOf (W := 0) (rm4_94 l Z a0 hw [] a_IS_NULL h0 n0 Z0 f5) hZ (tw_27 hw) (tw_5 hw) (by decide) (by decide)) q4a q4c (g := (mkF m 51 #[.val (.int p0), .val (.int p1), .val (.long p2), .second, .val (.long p3), .second, .val (.ref a_NOT_NULL), .val (.ref a_IS_NULL), .val (.int 0), .val (.int 0)] [(.ref a_IS_NULL)])) rfl (by rw [hml]; rfl) (Steps.refl _) (argsL := []) (rest := []) (lenOf pd_3 rfl) rfl (by show 2 * 0 + _ ≤ _; exact Nat.le_of_eq rfl) (hb hby at_51) (fun _ _ => ⟨rfl, e3, (by decide : 0 + 0 ≤ _), (by decide : 0 + 0 ≤ _)⟩)
  dsimp only [Pt.U, Pt.locs, Pt.cells, Pt.slots] at X4 l4 y4 z4 st4 hQ4
  subst l4 y4 z4
  obtain ⟨rfl, Nq4, e4⟩ := hQ4
  have N4 := Fr.app N3 Nq4
  -- pc 68: com/example/floe/floe/OperationNegatePinLaw.holds
  obtain ⟨_, _, ⟨T5, L5, k5, n5⟩, -, X5, ⟨Lc5, hQ5, l5, y5, z5⟩, st5⟩ := Jvm.LawKit.callS X4 hx (y := M_5) hown (mvT hZ (tw_32 hw)) (mvT hZ (tw_33 hw)) (mvT hZ (tw_2 hw)) (mvT hZ (tw_34 hw)) (by decide) (backOf (W := 0) (rm5_97 l Z a0 hw [] a_IS_NULL p2 p3 h0 n0 Z0 f5) hZ (tw_34 hw) (tw_2 hw) (by decide) (by decide)) (g := (mkF m 68 #[.val (.int p0), .val (.int p1), .val (.long p2), .second, .val (.long p3), .second, .val (.ref a_NOT_NULL), .val (.ref a_IS_NULL), .val (.int 0), .val (.int 0)] [(.long p3), (.long p2), (.int 0), (.ref a_IS_NULL)])) rfl (by rw [hml]; rfl) (argsL := [(.ref a_IS_NULL), (.int 0), (.long p2), (.long p3)]) (rest := []) (lenOf pd_4 rfl) rfl (by show 2 * 0 + _ ≤ _; exact Nat.le_of_eq rfl) (hb hby at_68) (fun _ _ => ⟨rfl, e4, (by decide : 0 + 0 ≤ _), (by decide : 0 + 0 ≤ _)⟩)
  dsimp only [Pt.U, Pt.locs, Pt.cells, Pt.slots] at X5 l5 y5 z5 st5 hQ5
  subst l5 y5 z5
  obtain ⟨rfl, Nq5, e5⟩ := hQ5
  have N5 := Fr.app N4 Nq5
  -- pc 78: com/example/floe/floe/OperationNegatePinLaw.holds
  obtain ⟨_, _, ⟨T6, L6, k6, n6⟩, -, X6, ⟨Lc6, hQ6, l6, y6, z6⟩, st6⟩ := Jvm.LawKit.callS X5 hx (y := M_5) hown (mvT hZ (tw_32 hw)) (mvT hZ (tw_33 hw)) (mvT hZ (tw_2 hw)) (mvT hZ (tw_34 hw)) (by decide) (backOf (W := 1) (rm5_96 l Z a0 hw [] a_NOT_NULL p2 p3 a_IS_NULL h0 n0 Z0 f5 (Ne.symm f6) f2) hZ (tw_34 hw) (tw_2 hw) (by decide) (by decide)) (g := (mkF m 78 #[.val (.int p0), .val (.int p1), .val (.long p2), .second, .val (.long p3), .second, .val (.ref a_NOT_NULL), .val (.ref a_IS_NULL), .val (.int 0), .val (.int 0)] [(.long p3), (.long p2), (.int 0), (.ref a_NOT_NULL), (.int 0)])) rfl (by rw [hml]; rfl) (argsL := [(.ref a_NOT_NULL), (.int 0), (.long p2), (.long p3)]) (rest := [(.int 0)]) (lenOf pd_4 rfl) rfl (by show 2 * 0 + _ ≤ _; exact Nat.le_of_eq rfl) (hb hby at_78) (fun _ _ => ⟨rfl, e5, (by decide : 0 + 0 ≤ _), (by decide : 0 + 0 ≤ _)⟩)
  dsimp only [Pt.U, Pt.locs, Pt.cells, Pt.slots] at X6 l6 y6 z6 st6 hQ6
  subst l6 y6 z6
  obtain ⟨rfl, Nq6, e6⟩ := hQ6
  have N6 := Fr.app N5 Nq6
  obtain ⟨fs, hr, hrun, hended, hW, hsame⟩ := X6.leave (v := (some (.int 1))) (fun h => by rw [Bd.returns] at h; cases h)
  refine ⟨_, _, castTop (ef0_IIJJ m p0 p1 p2 p3) ?_, hrun, hended, _, _, rfl, ?_, ⟨_, rfl⟩, hW, hsame.mono (by decide) (by decide)⟩
  · show Steps p.tables e below (s₁.setTop (mkF m 0 #[.val (.int p0), .val (.int p1), .val (.long p2), .second, .val (.long p3), .second, .unset, .unset, .unset, .unset] [])) _
    refine XS.iloadN X0.here hx rfl (hb hby at_0) rfl ?_
    show Steps p.tables e below (s₁.setTop (mkF m 1 #[.val (.int p0), .val (.int p1), .val (.long p2), .second, .val (.long p3), .second, .unset, .unset, .unset, .unset] [(.int p0)])) _
    refine st1 _ ?_
    refine XS.astore X1.here hx rfl (hb hby at_4) rfl rfl (l' := #[.val (.int p0), .val (.int p1), .val (.long p2), .second, .val (.long p3), .second, .val (.ref a_NOT_NULL), .unset, .unset, .unset]) rfl ?_
    refine XS.aload X1.here hx rfl (hb hby at_6) rfl rfl ?_
    show Steps p.tables e below (T1.setTop (mkF m 8 #[.val (.int p0), .val (.int p1), .val (.long p2), .second, .val (.long p3), .second, .val (.ref a_NOT_NULL), .unset, .unset, .unset] [(.ref a_NOT_NULL)])) _
    refine st2.trans ?_
    refine XS.astore X2.here hx rfl (hb hby at_11) rfl rfl (l' := #[.val (.int p0), .val (.int p1), .val (.long p2), .second, .val (.long p3), .second, .val (.ref a_NOT_NULL), .val (.ref a_IS_NULL), .unset, .unset]) rfl ?_
    refine XS.aload X2.here hx rfl (hb hby at_13) rfl rfl ?_
    refine XS.ifnonnullYes X2.here hx rfl (pc0 := 15) (pc' := 20) rfl (hb hby at_15) rfl (by decide) (by decide) ?_
    refine XS.aload X2.here hx rfl (hb hby at_20) rfl rfl ?_
    show Steps p.tables e below (T2.setTop (mkF m 22 #[.val (.int p0), .val (.int p1), .val (.long p2), .second, .val (.long p3), .second, .val (.ref a_NOT_NULL), .val (.ref a_IS_NULL), .unset, .unset] [(.ref a_NOT_NULL)])) _
    refine st3.trans ?_
    refine XS.istore X3.here hx rfl (hb hby at_25) rfl (l' := #[.val (.int p0), .val (.int p1), .val (.long p2), .second, .val (.long p3), .second, .val (.ref a_NOT_NULL), .val (.ref a_IS_NULL), .val (.int 0), .unset]) rfl ?_
    refine XS.iload X3.here hx rfl (hb hby at_27) rfl ?_
    refine XS.ifYes X3.here hx rfl (pc0 := 29) (pc' := 36) rfl (hb hby at_29) rfl (by decide) (by decide) (by decide) ?_
    refine XS.iloadN X3.here hx rfl (hb hby at_36) rfl ?_
    show Steps p.tables e below (T3.setTop (mkF m 37 #[.val (.int p0), .val (.int p1), .val (.long p2), .second, .val (.long p3), .second, .val (.ref a_NOT_NULL), .val (.ref a_IS_NULL), .val (.int 0), .unset] [(.int p1)])) _
    refine XS.iconst X3.here hx rfl (hb hby at_37) ?_
    show Steps p.tables e below (T3.setTop (mkF m 38 #[.val (.int p0), .val (.int p1), .val (.long p2), .second, .val (.long p3), .second, .val (.ref a_NOT_NULL), .val (.ref a_IS_NULL), .val (.int 0), .unset] [(.int 1), (.int p1)])) _
    refine XS.iand X3.here hx rfl (hb hby at_38) rfl ?_
    show Steps p.tables e below (T3.setTop (mkF m 39 #[.val (.int p0), .val (.int p1), .val (.long p2), .second, .val (.long p3), .second, .val (.ref a_NOT_NULL), .val (.ref a_IS_NULL), .val (.int 0), .unset] [(.int (p1 &&& (1 : Int32)))])) _
    rw [f7]
    refine XS.ifYes X3.here hx rfl (pc0 := 39) (pc' := 46) rfl (hb hby at_39) rfl (by decide) (by decide) (by decide) ?_
    refine XS.iconst X3.here hx rfl (hb hby at_46) ?_
    refine XS.istore X3.here hx rfl (hb hby at_47) rfl (l' := #[.val (.int p0), .val (.int p1), .val (.long p2), .second, .val (.long p3), .second, .val (.ref a_NOT_NULL), .val (.ref a_IS_NULL), .val (.int 0), .val (.int 0)]) rfl ?_
    refine XS.aload X3.here hx rfl (hb hby at_49) rfl rfl ?_
    show Steps p.tables e below (T3.setTop (mkF m 51 #[.val (.int p0), .val (.int p1), .val (.long p2), .second, .val (.long p3), .second, .val (.ref a_NOT_NULL), .val (.ref a_IS_NULL), .val (.int 0), .val (.int 0)] [(.ref a_IS_NULL)])) _
    refine st4.trans ?_
    refine XS.iload X4.here hx rfl (hb hby at_54) rfl ?_
    refine XS.icmpYes X4.here hx rfl (pc0 := 56) (pc' := 61) rfl (hb hby at_56) rfl (by decide) (by decide) (by decide) ?_
    refine XS.aload X4.here hx rfl (hb hby at_61) rfl rfl ?_
    refine XS.iload X4.here hx rfl (hb hby at_63) rfl ?_
    show Steps p.tables e below (T4.setTop (mkF m 65 #[.val (.int p0), .val (.int p1), .val (.long p2), .second, .val (.long p3), .second, .val (.ref a_NOT_NULL), .val (.ref a_IS_NULL), .val (.int 0), .val (.int 0)] [(.int 0), (.ref a_IS_NULL)])) _
    refine XS.lloadN X4.here hx rfl (hb hby at_65) rfl ?_
    refine XS.lload X4.here hx rfl (hb hby at_66) rfl ?_
    show Steps p.tables e below (T4.setTop (mkF m 68 #[.val (.int p0), .val (.int p1), .val (.long p2), .second, .val (.long p3), .second, .val (.ref a_NOT_NULL), .val (.ref a_IS_NULL), .val (.int 0), .val (.int 0)] [(.long p3), (.long p2), (.int 0), (.ref a_IS_NULL)])) _
    refine st5 _ ?_
    refine XS.aload X5.here hx rfl (hb hby at_71) rfl rfl ?_
    refine XS.iload X5.here hx rfl (hb hby at_73) rfl ?_
    refine XS.lloadN X5.here hx rfl (hb hby at_75) rfl ?_
    refine XS.lload X5.here hx rfl (hb hby at_76) rfl ?_
    show Steps p.tables e below (T5.setTop (mkF m 78 #[.val (.int p0), .val (.int p1), .val (.long p2), .second, .val (.long p3), .second, .val (.ref a_NOT_NULL), .val (.ref a_IS_NULL), .val (.int 0), .val (.int 0)] [(.long p3), (.long p2), (.int 0), (.ref a_NOT_NULL), (.int 0)])) _
    refine st6 _ ?_
    refine XS.icmpNo X6.here hx rfl (hb hby at_81) rfl (by decide) ?_
    refine XS.iconst X6.here hx rfl (hb hby at_84) ?_
    refine XS.goto X6.here hx rfl (pc0 := 85) (pc' := 89) rfl (hb hby at_85) (by decide) (by decide) ?_
    show Steps p.tables e below (T6.setTop (mkF m 89 #[.val (.int p0), .val (.int p1), .val (.long p2), .second, .val (.long p3), .second, .val (.ref a_NOT_NULL), .val (.ref a_IS_NULL), .val (.int 0), .val (.int 0)] [(.int 1)])) _
    exact retN X6 hx (t := .boolean) Bd.returns (by simp) (hb hby at_89) hr
  · show QT n0 _ T6.heap _
    rw [e6]
    exact ⟨rfl, N6⟩
set_option maxRecDepth 65536 in
set_option maxHeartbeats 40000000 in
theorem rm0_106 (l : Launch) (Z : State) (a0 : Array Value) (hw : ∀ d ∈ tables_1, d.before a0 Z = true) (ws : List Jvm.Cond) (p0 : Int32) (p1 : Int32) (p2 : Int64) (p3 : Int64) (a_NOT_NULL : Addr) (a_IS_NULL : Addr) (h0 : Heap) (n0 : Nat) (Z0 : n0 ≤ h0.size) (f1 : (p0 &&& (7 : Int32)) = (7 : Int32)) (f2 : S_3 Z h0 (.ref a_NOT_NULL)) (f3 : F_0 Z h0 a_NOT_NULL (.int 7)) (f4 : E_0 Z h0 a_NOT_NULL) (f5 : S_2 Z h0 (.ref a_IS_NULL)) (f6 : a_IS_NULL ≠ a_NOT_NULL) (f7 : (p1 &&& (1 : Int32)) = (1 : Int32)) (f8 : E_0 Z h0 a_IS_NULL) :
    MetFree l x (head1 (Jvm.Cond.code x code maxLocals ret :: ws) room_1) (fun a U => a = #[(.int p0), (.int p1), (.long p2), (.long p3)] ∧ Z.Warmed39 U.vm ∧ U.heap = h0) (fun _ _ _ _ _ => True) (fun _ U o U' => ∃ v L, o = .returned v ∧ QT n0 v U'.heap L ∧ FrameEnd U o U' L room_1.cells room_1.slots) := by
  refine MetFree.of_bodySF (plainFor_of_name pn_com_example_floe_floe_OperationNegatePinLaw) hisR ?_
  intro p e s m args below meth c s₁ Bd hml0 hP hK
  obtain ⟨rfl, hZ, hh⟩ := hP
  have hx := Bd.exec
  have hby := Bd.bytes
  have hml : c.maxLocals = 10 := hml0
  have hown : s.vm.findClass "com/example/floe/floe/OperationNegatePinLaw" = some m.cls := findClass_of_methodNamed Bd.named
  have hnm := (name_of_methodNamed Bd.named Bd.method).1
  have X0 : Stand p l e room_1 s m #[(.int p0), (.int p1), (.long p2), (.long p3)] below meth c s₁ [] 0 0 := Stand.of_body Bd
  have e0 : s₁.heap = h0 := by rw [← hh, Bd.state]; rfl
  have N0 := Fr.nil n0
  -- pc 1: com/example/floe/floe/OperationNegatePinLaw.pick
  obtain ⟨_, _, ⟨T1, L1, k1, n1⟩, -, X1, ⟨Lc1, hQ1, l1, y1, z1⟩, st1⟩ := Jvm.LawKit.callS X0 hx (y := M_0) hown (mvT hZ (tw_0 hw)) (mvT hZ (tw_1 hw)) (mvT hZ (tw_2 hw)) (mvT hZ (tw_3 hw)) (by decide) (backOf (W := 0) (rm1_102 l Z a0 hw [] p0 a_NOT_NULL h0 n0 Z0 f1 f2) hZ (tw_3 hw) (tw_2 hw) (by decide) (by decide)) (g := (mkF m 1 #[.val (.int p0), .val (.int p1), .val (.long p2), .second, .val (.long p3), .second, .unset, .unset, .unset, .unset] [(.int p0)])) rfl (by rw [hml]; rfl) (argsL := [(.int p0)]) (rest := []) (lenOf pd_0 rfl) rfl (by show 2 * 0 + _ ≤ _; exact Nat.le_of_eq rfl) (hb hby at_1) (fun _ _ => ⟨rfl, e0, (by decide : 0 + 0 ≤ _), (by decide : 0 + 0 ≤ _)⟩)
  dsimp only [Pt.U, Pt.locs, Pt.cells, Pt.slots] at X1 l1 y1 z1 st1 hQ1
  subst l1 y1 z1
  obtain ⟨rfl, Nq1, e1⟩ := hQ1
  have N1 := Fr.app N0 Nq1
  -- pc 8: com/example/floe/floe/Expression$Operation.negate
  obtain ⟨cq2, kq2, q2a, q2b, q2c⟩ := isOf hZ e1 f4
  obtain ⟨_, _, ⟨T2, L2, k2, n2⟩, -, X2, ⟨Lc2, hQ2, l2, y2, z2⟩, st2⟩ := X1.virtualBack hx (y := M_3) (z := M_3) hown (mvT hZ (tw_7 hw)) (mvT hZ (tw_8 hw)) (notFace_of_selects (args := #[]) (mvT hZ (tw_10 hw))) (mvT hZ (tw_10 hw)) (mvT hZ (tw_9 hw)) (by decide) (backOf (W := 0) (rm2_104 l Z a0 hw [] a_NOT_NULL a_IS_NULL h0 n0 Z0 f3 f4 f5) hZ (tw_11 hw) (tw_5 hw) (by decide) (by decide)) q2a q2c (g := (mkF m 8 #[.val (.int p0), .val (.int p1), .val (.long p2), .second, .val (.long p3), .second, .val (.ref a_NOT_NULL), .unset, .unset, .unset] [(.ref a_NOT_NULL)])) rfl (by rw [hml]; rfl) (Steps.refl _) (argsL := []) (rest := []) (lenOf pd_2 rfl) rfl (by show 2 * 0 + _ ≤ _; exact Nat.le_of_eq rfl) (hb hby at_8) (fun _ _ => ⟨rfl, e1, (by decide : 0 + 0 ≤ _), (by decide : 0 + 0 ≤ _)⟩)
  dsimp only [Pt.U, Pt.locs, Pt.cells, Pt.slots] at X2 l2 y2 z2 st2 hQ2
  subst l2 y2 z2
  obtain ⟨rfl, Nq2, e2⟩ := hQ2
  have N2 := Fr.app N1 Nq2
  -- pc 22: com/example/floe/floe/Expression$Operation.compares
  obtain ⟨cq3, kq3, q3a, q3b, q3c⟩ := isOf hZ e2 f4
  obtain ⟨_, _, ⟨T3, L3, k3, n3⟩, -, X3, ⟨Lc3, hQ3, l3, y3, z3⟩, st3⟩ := X2.virtualBack hx (y := M_4) (z := M_4) hown (mvT hZ (tw_23 hw)) (mvT hZ (tw_24 hw)) (notFace_of_selects (args := #[]) (mvT hZ (tw_26 hw))) (mvT hZ (tw_26 hw)) (mvT hZ (tw_25 hw)) (by decide) (backOf (W := 0) (rm4_95 l Z a0 hw [] a_NOT_NULL a_IS_NULL h0 n0 Z0 f5 f6 f2) hZ (tw_27 hw) (tw_5 hw) (by decide) (by decide)) q3a q3c (g := (mkF m 22 #[.val (.int p0), .val (.int p1), .val (.long p2), .second, .val (.long p3), .second, .val (.ref a_NOT_NULL), .val (.ref a_IS_NULL), .unset, .unset] [(.ref a_NOT_NULL)])) rfl (by rw [hml]; rfl) (Steps.refl _) (argsL := []) (rest := []) (lenOf pd_3 rfl) rfl (by show 2 * 0 + _ ≤ _; exact Nat.le_of_eq rfl) (hb hby at_22) (fun _ _ => ⟨rfl, e2, (by decide : 0 + 0 ≤ _), (by decide : 0 + 0 ≤ _)⟩)
  dsimp only [Pt.U, Pt.locs, Pt.cells, Pt.slots] at X3 l3 y3 z3 st3 hQ3
  subst l3 y3 z3
  obtain ⟨rfl, Nq3, e3⟩ := hQ3
  have N3 := Fr.app N2 Nq3
  -- pc 51: com/example/floe/floe/Expression$Operation.compares
  obtain ⟨cq4, kq4, q4a, q4b, q4c⟩ := isOf hZ e3 f8
  obtain ⟨_, _, ⟨T4, L4, k4, n4⟩, -, X4, ⟨Lc4, hQ4, l4, y4, z4⟩, st4⟩ := X3.virtualBack hx (y := M_4) (z := M_4) hown (mvT hZ (tw_23 hw)) (mvT hZ (tw_24 hw)) (notFace_of_selects (args := #[]) (mvT hZ (tw_26 hw))) (mvT hZ (tw_26 hw)) (mvT hZ (tw_25 hw)) (by decide) (backOf (W := 0) (rm4_94 l Z a0 hw [] a_IS_NULL h0 n0 Z0 f5) hZ (tw_27 hw) (tw_5 hw) (by decide) (by decide)) q4a q4c (g := (mkF m 51 #[.val (.int p0), .val (.int p1), .val (.long p2), .second, .val (.long p3), .second, .val (.ref a_NOT_NULL), .val (.ref a_IS_NULL), .val (.int 0), .val (.int 1)] [(.ref a_IS_NULL)])) rfl (by rw [hml]; rfl) (Steps.refl _) (argsL := []) (rest := []) (lenOf pd_3 rfl) rfl (by show 2 * 0 + _ ≤ _; exact Nat.le_of_eq rfl) (hb hby at_51) (fun _ _ => ⟨rfl, e3, (by decide : 0 + 0 ≤ _), (by decide : 0 + 0 ≤ _)⟩)
  dsimp only [Pt.U, Pt.locs, Pt.cells, Pt.slots] at X4 l4 y4 z4 st4 hQ4
  subst l4 y4 z4
  obtain ⟨rfl, Nq4, e4⟩ := hQ4
  have N4 := Fr.app N3 Nq4
  -- pc 68: com/example/floe/floe/OperationNegatePinLaw.holds
  obtain ⟨_, _, ⟨T5, L5, k5, n5⟩, -, X5, ⟨Lc5, hQ5, l5, y5, z5⟩, st5⟩ := Jvm.LawKit.callS X4 hx (y := M_5) hown (mvT hZ (tw_32 hw)) (mvT hZ (tw_33 hw)) (mvT hZ (tw_2 hw)) (mvT hZ (tw_34 hw)) (by decide) (backOf (W := 0) (rm5_100 l Z a0 hw [] a_IS_NULL p2 p3 h0 n0 Z0 f5) hZ (tw_34 hw) (tw_2 hw) (by decide) (by decide)) (g := (mkF m 68 #[.val (.int p0), .val (.int p1), .val (.long p2), .second, .val (.long p3), .second, .val (.ref a_NOT_NULL), .val (.ref a_IS_NULL), .val (.int 0), .val (.int 1)] [(.long p3), (.long p2), (.int 1), (.ref a_IS_NULL)])) rfl (by rw [hml]; rfl) (argsL := [(.ref a_IS_NULL), (.int 1), (.long p2), (.long p3)]) (rest := []) (lenOf pd_4 rfl) rfl (by show 2 * 0 + _ ≤ _; exact Nat.le_of_eq rfl) (hb hby at_68) (fun _ _ => ⟨rfl, e4, (by decide : 0 + 0 ≤ _), (by decide : 0 + 0 ≤ _)⟩)
  dsimp only [Pt.U, Pt.locs, Pt.cells, Pt.slots] at X5 l5 y5 z5 st5 hQ5
  subst l5 y5 z5
  obtain ⟨rfl, Nq5, e5⟩ := hQ5
  have N5 := Fr.app N4 Nq5
  -- pc 78: com/example/floe/floe/OperationNegatePinLaw.holds
  obtain ⟨_, _, ⟨T6, L6, k6, n6⟩, -, X6, ⟨Lc6, hQ6, l6, y6, z6⟩, st6⟩ := Jvm.LawKit.callS X5 hx (y := M_5) hown (mvT hZ (tw_32 hw)) (mvT hZ (tw_33 hw)) (mvT hZ (tw_2 hw)) (mvT hZ (tw_34 hw)) (by decide) (backOf (W := 1) (rm5_99 l Z a0 hw [] a_NOT_NULL p2 p3 a_IS_NULL h0 n0 Z0 f5 (Ne.symm f6) f2) hZ (tw_34 hw) (tw_2 hw) (by decide) (by decide)) (g := (mkF m 78 #[.val (.int p0), .val (.int p1), .val (.long p2), .second, .val (.long p3), .second, .val (.ref a_NOT_NULL), .val (.ref a_IS_NULL), .val (.int 0), .val (.int 1)] [(.long p3), (.long p2), (.int 1), (.ref a_NOT_NULL), (.int 1)])) rfl (by rw [hml]; rfl) (argsL := [(.ref a_NOT_NULL), (.int 1), (.long p2), (.long p3)]) (rest := [(.int 1)]) (lenOf pd_4 rfl) rfl (by show 2 * 0 + _ ≤ _; exact Nat.le_of_eq rfl) (hb hby at_78) (fun _ _ => ⟨rfl, e5, (by decide : 0 + 0 ≤ _), (by decide : 0 + 0 ≤ _)⟩)
  dsimp only [Pt.U, Pt.locs, Pt.cells, Pt.slots] at X6 l6 y6 z6 st6 hQ6
  subst l6 y6 z6
  obtain ⟨rfl, Nq6, e6⟩ := hQ6
  have N6 := Fr.app N5 Nq6
  obtain ⟨fs, hr, hrun, hended, hW, hsame⟩ := X6.leave (v := (some (.int 1))) (fun h => by rw [Bd.returns] at h; cases h)
  refine ⟨_, _, castTop (ef0_IIJJ m p0 p1 p2 p3) ?_, hrun, hended, _, _, rfl, ?_, ⟨_, rfl⟩, hW, hsame.mono (by decide) (by decide)⟩
  · show Steps p.tables e below (s₁.setTop (mkF m 0 #[.val (.int p0), .val (.int p1), .val (.long p2), .second, .val (.long p3), .second, .unset, .unset, .unset, .unset] [])) _
    refine XS.iloadN X0.here hx rfl (hb hby at_0) rfl ?_
    show Steps p.tables e below (s₁.setTop (mkF m 1 #[.val (.int p0), .val (.int p1), .val (.long p2), .second, .val (.long p3), .second, .unset, .unset, .unset, .unset] [(.int p0)])) _
    refine st1 _ ?_
    refine XS.astore X1.here hx rfl (hb hby at_4) rfl rfl (l' := #[.val (.int p0), .val (.int p1), .val (.long p2), .second, .val (.long p3), .second, .val (.ref a_NOT_NULL), .unset, .unset, .unset]) rfl ?_
    refine XS.aload X1.here hx rfl (hb hby at_6) rfl rfl ?_
    show Steps p.tables e below (T1.setTop (mkF m 8 #[.val (.int p0), .val (.int p1), .val (.long p2), .second, .val (.long p3), .second, .val (.ref a_NOT_NULL), .unset, .unset, .unset] [(.ref a_NOT_NULL)])) _
    refine st2.trans ?_
    refine XS.astore X2.here hx rfl (hb hby at_11) rfl rfl (l' := #[.val (.int p0), .val (.int p1), .val (.long p2), .second, .val (.long p3), .second, .val (.ref a_NOT_NULL), .val (.ref a_IS_NULL), .unset, .unset]) rfl ?_
    refine XS.aload X2.here hx rfl (hb hby at_13) rfl rfl ?_
    refine XS.ifnonnullYes X2.here hx rfl (pc0 := 15) (pc' := 20) rfl (hb hby at_15) rfl (by decide) (by decide) ?_
    refine XS.aload X2.here hx rfl (hb hby at_20) rfl rfl ?_
    show Steps p.tables e below (T2.setTop (mkF m 22 #[.val (.int p0), .val (.int p1), .val (.long p2), .second, .val (.long p3), .second, .val (.ref a_NOT_NULL), .val (.ref a_IS_NULL), .unset, .unset] [(.ref a_NOT_NULL)])) _
    refine st3.trans ?_
    refine XS.istore X3.here hx rfl (hb hby at_25) rfl (l' := #[.val (.int p0), .val (.int p1), .val (.long p2), .second, .val (.long p3), .second, .val (.ref a_NOT_NULL), .val (.ref a_IS_NULL), .val (.int 0), .unset]) rfl ?_
    refine XS.iload X3.here hx rfl (hb hby at_27) rfl ?_
    refine XS.ifYes X3.here hx rfl (pc0 := 29) (pc' := 36) rfl (hb hby at_29) rfl (by decide) (by decide) (by decide) ?_
    refine XS.iloadN X3.here hx rfl (hb hby at_36) rfl ?_
    show Steps p.tables e below (T3.setTop (mkF m 37 #[.val (.int p0), .val (.int p1), .val (.long p2), .second, .val (.long p3), .second, .val (.ref a_NOT_NULL), .val (.ref a_IS_NULL), .val (.int 0), .unset] [(.int p1)])) _
    refine XS.iconst X3.here hx rfl (hb hby at_37) ?_
    show Steps p.tables e below (T3.setTop (mkF m 38 #[.val (.int p0), .val (.int p1), .val (.long p2), .second, .val (.long p3), .second, .val (.ref a_NOT_NULL), .val (.ref a_IS_NULL), .val (.int 0), .unset] [(.int 1), (.int p1)])) _
    refine XS.iand X3.here hx rfl (hb hby at_38) rfl ?_
    show Steps p.tables e below (T3.setTop (mkF m 39 #[.val (.int p0), .val (.int p1), .val (.long p2), .second, .val (.long p3), .second, .val (.ref a_NOT_NULL), .val (.ref a_IS_NULL), .val (.int 0), .unset] [(.int (p1 &&& (1 : Int32)))])) _
    rw [f7]
    refine XS.ifNo X3.here hx rfl (hb hby at_39) rfl (by decide) ?_
    refine XS.iconst X3.here hx rfl (hb hby at_42) ?_
    refine XS.goto X3.here hx rfl (pc0 := 43) (pc' := 47) rfl (hb hby at_43) (by decide) (by decide) ?_
    refine XS.istore X3.here hx rfl (hb hby at_47) rfl (l' := #[.val (.int p0), .val (.int p1), .val (.long p2), .second, .val (.long p3), .second, .val (.ref a_NOT_NULL), .val (.ref a_IS_NULL), .val (.int 0), .val (.int 1)]) rfl ?_
    show Steps p.tables e below (T3.setTop (mkF m 49 #[.val (.int p0), .val (.int p1), .val (.long p2), .second, .val (.long p3), .second, .val (.ref a_NOT_NULL), .val (.ref a_IS_NULL), .val (.int 0), .val (.int 1)] [])) _
    refine XS.aload X3.here hx rfl (hb hby at_49) rfl rfl ?_
    show Steps p.tables e below (T3.setTop (mkF m 51 #[.val (.int p0), .val (.int p1), .val (.long p2), .second, .val (.long p3), .second, .val (.ref a_NOT_NULL), .val (.ref a_IS_NULL), .val (.int 0), .val (.int 1)] [(.ref a_IS_NULL)])) _
    refine st4.trans ?_
    refine XS.iload X4.here hx rfl (hb hby at_54) rfl ?_
    refine XS.icmpYes X4.here hx rfl (pc0 := 56) (pc' := 61) rfl (hb hby at_56) rfl (by decide) (by decide) (by decide) ?_
    refine XS.aload X4.here hx rfl (hb hby at_61) rfl rfl ?_
    refine XS.iload X4.here hx rfl (hb hby at_63) rfl ?_
    show Steps p.tables e below (T4.setTop (mkF m 65 #[.val (.int p0), .val (.int p1), .val (.long p2), .second, .val (.long p3), .second, .val (.ref a_NOT_NULL), .val (.ref a_IS_NULL), .val (.int 0), .val (.int 1)] [(.int 1), (.ref a_IS_NULL)])) _
    refine XS.lloadN X4.here hx rfl (hb hby at_65) rfl ?_
    refine XS.lload X4.here hx rfl (hb hby at_66) rfl ?_
    show Steps p.tables e below (T4.setTop (mkF m 68 #[.val (.int p0), .val (.int p1), .val (.long p2), .second, .val (.long p3), .second, .val (.ref a_NOT_NULL), .val (.ref a_IS_NULL), .val (.int 0), .val (.int 1)] [(.long p3), (.long p2), (.int 1), (.ref a_IS_NULL)])) _
    refine st5 _ ?_
    refine XS.aload X5.here hx rfl (hb hby at_71) rfl rfl ?_
    refine XS.iload X5.here hx rfl (hb hby at_73) rfl ?_
    refine XS.lloadN X5.here hx rfl (hb hby at_75) rfl ?_
    refine XS.lload X5.here hx rfl (hb hby at_76) rfl ?_
    show Steps p.tables e below (T5.setTop (mkF m 78 #[.val (.int p0), .val (.int p1), .val (.long p2), .second, .val (.long p3), .second, .val (.ref a_NOT_NULL), .val (.ref a_IS_NULL), .val (.int 0), .val (.int 1)] [(.long p3), (.long p2), (.int 1), (.ref a_NOT_NULL), (.int 1)])) _
    refine st6 _ ?_
    refine XS.icmpNo X6.here hx rfl (hb hby at_81) rfl (by decide) ?_
    refine XS.iconst X6.here hx rfl (hb hby at_84) ?_
    refine XS.goto X6.here hx rfl (pc0 := 85) (pc' := 89) rfl (hb hby at_85) (by decide) (by decide) ?_
    show Steps p.tables e below (T6.setTop (mkF m 89 #[.val (.int p0), .val (.int p1), .val (.long p2), .second, .val (.long p3), .second, .val (.ref a_NOT_NULL), .val (.ref a_IS_NULL), .val (.int 0), .val (.int 1)] [(.int 1)])) _
    exact retN X6 hx (t := .boolean) Bd.returns (by simp) (hb hby at_89) hr
  · show QT n0 _ T6.heap _
    rw [e6]
    exact ⟨rfl, N6⟩
set_option maxRecDepth 65536 in
set_option maxHeartbeats 40000000 in
theorem comes_1 {Post : Tables → Env → Array Value → State → Outcome → State → Prop} (hpost : ∀ tb e args s v u, (limb_1_1.after args s (.returned v) u = true ∧ limb_1_2.after args s (.returned v) u = true ∧ True) → FrameEnd s (.returned v) u (Jvm.fieldLocs frame_1_writes args s ++ Jvm.arrayLocs frame_1_arrays args s ++ Jvm.staticLocs frame_1_statics s) 0 0 → Post tb e args s (.returned v) u) :
    ArmFor flags0 classFile x code maxLocals ret World_1 tables_1 room_1 Calls_1 rest_1 Pre_1 Post := by
  intro l hfl _ _ p e ha hc hk s m args below hf hA hF happ hP
  obtain ⟨hcalls, hrest, hpre⟩ := hP
  obtain ⟨-, -, -, hnamed, -, -, -, hat⟩ := (Spec.applies_iff hf).mp happ
  obtain ⟨hg, hn⟩ := and_e (Cond.before_iff.mp (show (Jvm.Cond.and given_1 narrow_1).before args s = true from hpre))
  obtain ⟨k107, k108⟩ := and_e hg
  obtain ⟨k109, k110⟩ := and_e k108
  obtain ⟨k111, k112⟩ := and_e k110
  obtain ⟨k113, k114⟩ := and_e k112
  obtain ⟨w0, w1, w2, w3, rfl⟩ : ∃ w0 w1 w2 w3 : Value, args = #[w0, w1, w2, w3] := by
    have hs : args.size = 4 := by simpa [Cond.value, given_1] using k107
    obtain ⟨L⟩ := args
    match L, hs with
    | [w0, w1, w2, w3], _ => exact ⟨w0, w1, w2, w3, rfl⟩
  have hw := fun d (hd : d ∈ tables_1) => atoms_spec (ws := Jvm.Cond.code x code maxLocals ret :: tables_1) hat d (List.mem_cons_of_mem _ hd)
  have hfit : Fit s := fun {y c} hc i hi => by
    obtain ⟨ha, rfl⟩ := Array.getElem?_eq_some_iff.mp hc
    have q := List.all_eq_true.mp ((Array.all_eq_true_iff_forall_mem.mp hF) _ (Array.getElem_mem ha)) i (List.mem_range.mpr hi)
    simpa [Array.getElem?_eq_getElem hi] using q
  obtain ⟨p0, ei0⟩ := is_v k109
  obtain rfl : w0 = (.int p0) := Option.some.inj ei0
  obtain ⟨p1, ei1⟩ := is_v k111
  obtain rfl : w1 = (.int p1) := Option.some.inj ei1
  obtain ⟨p2, ei2⟩ := isL_v k113
  obtain rfl : w2 = (.long p2) := Option.some.inj ei2
  obtain ⟨p3, ei3⟩ := isL_v k114
  obtain rfl : w3 = (.long p3) := Option.some.inj ei3
  obtain ⟨g1, g2⟩ := and_e hn
  obtain ⟨g3, g4⟩ := and_e g2
  obtain ⟨g5, g6⟩ := and_e g4
  obtain ⟨g7, g8⟩ := and_e g6
  obtain ⟨g9, g10⟩ := and_e g8
  obtain ⟨g11, g12⟩ := and_e g10
  obtain ⟨g13, g14⟩ := and_e g12
  obtain ⟨g15, g16⟩ := and_e g14
  obtain ⟨g17, g18⟩ := and_e g16
  obtain ⟨g19, g20⟩ := and_e g18
  obtain ⟨g21, g22⟩ := and_e g20
  obtain ⟨g23, g24⟩ := and_e g22
  obtain ⟨g25, g26⟩ := and_e g24
  obtain ⟨g27, g28⟩ := and_e g26
  obtain ⟨g29, g30⟩ := and_e g28
  obtain ⟨a_EQ, ev_a_EQ⟩ := exa_v g1
  have S_a_EQ : Sta s s.heap "com/example/floe/floe/Expression$Operation" "EQ" "Lcom/example/floe/floe/Expression$Operation;" (.ref a_EQ) := Sta.start ev_a_EQ (Or.inr ⟨(tw_5 hw), (tw_6 hw)⟩)
  have E_a_EQ : Exa s s.heap a_EQ "com/example/floe/floe/Expression$Operation" := Exa.start ev_a_EQ g1
  obtain ⟨a_NOT_EQ, ev_a_NOT_EQ⟩ := exa_v g5
  have S_a_NOT_EQ : Sta s s.heap "com/example/floe/floe/Expression$Operation" "NOT_EQ" "Lcom/example/floe/floe/Expression$Operation;" (.ref a_NOT_EQ) := Sta.start ev_a_NOT_EQ (Or.inr ⟨(tw_5 hw), (tw_22 hw)⟩)
  have E_a_NOT_EQ : Exa s s.heap a_NOT_EQ "com/example/floe/floe/Expression$Operation" := Exa.start ev_a_NOT_EQ g5
  obtain ⟨a_IS_NULL, ev_a_IS_NULL⟩ := exa_v g7
  have S_a_IS_NULL : Sta s s.heap "com/example/floe/floe/Expression$Operation" "IS_NULL" "Lcom/example/floe/floe/Expression$Operation;" (.ref a_IS_NULL) := Sta.start ev_a_IS_NULL (Or.inr ⟨(tw_5 hw), (tw_29 hw)⟩)
  have E_a_IS_NULL : Exa s s.heap a_IS_NULL "com/example/floe/floe/Expression$Operation" := Exa.start ev_a_IS_NULL g7
  obtain ⟨a_NOT_NULL, ev_a_NOT_NULL⟩ := exa_v g11
  have S_a_NOT_NULL : Sta s s.heap "com/example/floe/floe/Expression$Operation" "NOT_NULL" "Lcom/example/floe/floe/Expression$Operation;" (.ref a_NOT_NULL) := Sta.start ev_a_NOT_NULL (Or.inr ⟨(tw_5 hw), (tw_31 hw)⟩)
  have E_a_NOT_NULL : Exa s s.heap a_NOT_NULL "com/example/floe/floe/Expression$Operation" := Exa.start ev_a_NOT_NULL g11
  obtain ⟨a_LT, ev_a_LT⟩ := exa_v g17
  have S_a_LT : Sta s s.heap "com/example/floe/floe/Expression$Operation" "LT" "Lcom/example/floe/floe/Expression$Operation;" (.ref a_LT) := Sta.start ev_a_LT (Or.inr ⟨(tw_5 hw), (tw_39 hw)⟩)
  have E_a_LT : Exa s s.heap a_LT "com/example/floe/floe/Expression$Operation" := Exa.start ev_a_LT g17
  obtain ⟨a_GT_EQ, ev_a_GT_EQ⟩ := exa_v g21
  have S_a_GT_EQ : Sta s s.heap "com/example/floe/floe/Expression$Operation" "GT_EQ" "Lcom/example/floe/floe/Expression$Operation;" (.ref a_GT_EQ) := Sta.start ev_a_GT_EQ (Or.inr ⟨(tw_5 hw), (tw_41 hw)⟩)
  have E_a_GT_EQ : Exa s s.heap a_GT_EQ "com/example/floe/floe/Expression$Operation" := Exa.start ev_a_GT_EQ g21
  obtain ⟨a_LT_EQ, ev_a_LT_EQ⟩ := exa_v g25
  have S_a_LT_EQ : Sta s s.heap "com/example/floe/floe/Expression$Operation" "LT_EQ" "Lcom/example/floe/floe/Expression$Operation;" (.ref a_LT_EQ) := Sta.start ev_a_LT_EQ (Or.inr ⟨(tw_5 hw), (tw_43 hw)⟩)
  have E_a_LT_EQ : Exa s s.heap a_LT_EQ "com/example/floe/floe/Expression$Operation" := Exa.start ev_a_LT_EQ g25
  obtain ⟨a_GT, ev_a_GT⟩ := exa_v g29
  have S_a_GT : Sta s s.heap "com/example/floe/floe/Expression$Operation" "GT" "Lcom/example/floe/floe/Expression$Operation;" (.ref a_GT) := Sta.start ev_a_GT (Or.inr ⟨(tw_5 hw), (tw_45 hw)⟩)
  have E_a_GT : Exa s s.heap a_GT "com/example/floe/floe/Expression$Operation" := Exa.start ev_a_GT g29
  have F_ordinal_a_EQ : Fld s s.heap a_EQ "java/lang/Enum" "ordinal" "I" (.int (0 : Int32)) := own_fld ev_a_EQ g3
  have F_ordinal_a_IS_NULL : Fld s s.heap a_IS_NULL "java/lang/Enum" "ordinal" "I" (.int (6 : Int32)) := own_fld ev_a_IS_NULL g9
  have F_ordinal_a_NOT_NULL : Fld s s.heap a_NOT_NULL "java/lang/Enum" "ordinal" "I" (.int (7 : Int32)) := own_fld ev_a_NOT_NULL g13
  have F_ordinal_a_NOT_EQ : Fld s s.heap a_NOT_EQ "java/lang/Enum" "ordinal" "I" (.int (1 : Int32)) := own_fld ev_a_NOT_EQ g15
  have F_ordinal_a_LT : Fld s s.heap a_LT "java/lang/Enum" "ordinal" "I" (.int (2 : Int32)) := own_fld ev_a_LT g19
  have F_ordinal_a_GT_EQ : Fld s s.heap a_GT_EQ "java/lang/Enum" "ordinal" "I" (.int (5 : Int32)) := own_fld ev_a_GT_EQ g23
  have F_ordinal_a_LT_EQ : Fld s s.heap a_LT_EQ "java/lang/Enum" "ordinal" "I" (.int (3 : Int32)) := own_fld ev_a_LT_EQ g27
  have F_ordinal_a_GT : Fld s s.heap a_GT "java/lang/Enum" "ordinal" "I" (.int (4 : Int32)) := own_fld ev_a_GT g30
  have M : MetFree l x (head1 (Jvm.Cond.code x code maxLocals ret :: tables_1) room_1) (fun a U => a = #[(.int p0), (.int p1), (.long p2), (.long p3)] ∧ s.Warmed39 U.vm ∧ U.heap = s.heap) (fun _ _ _ _ _ => True) (fun _ U o U' => ∃ v L, o = .returned v ∧ QT s.heap.size v U'.heap L ∧ FrameEnd U o U' L room_1.cells room_1.slots) := by
    rcases own_and7 p0 with hk | hk | hk | hk | hk | hk | hk | hk
    · rcases own_lcmp p2 p3 with hj | hj | hj
      · exact rm0_38 l s _ hw tables_1 p0 p1 p2 p3 a_EQ a_NOT_EQ a_IS_NULL a_NOT_NULL s.heap s.heap.size (Nat.le_refl _) hk S_a_EQ F_ordinal_a_EQ E_a_EQ S_a_NOT_EQ S_a_IS_NULL (Fld.ne F_ordinal_a_EQ F_ordinal_a_IS_NULL (by decide)) S_a_NOT_NULL (Fld.ne F_ordinal_a_EQ F_ordinal_a_NOT_NULL (by decide)) (Fld.ne F_ordinal_a_IS_NULL F_ordinal_a_NOT_EQ (by decide)) (Fld.ne F_ordinal_a_NOT_NULL F_ordinal_a_NOT_EQ (by decide)) E_a_NOT_EQ (Fld.ne F_ordinal_a_EQ F_ordinal_a_NOT_EQ (by decide)) hj
      · exact rm0_41 l s _ hw tables_1 p0 p1 p2 p3 a_EQ a_NOT_EQ a_IS_NULL a_NOT_NULL s.heap s.heap.size (Nat.le_refl _) hk S_a_EQ F_ordinal_a_EQ E_a_EQ S_a_NOT_EQ S_a_IS_NULL (Fld.ne F_ordinal_a_EQ F_ordinal_a_IS_NULL (by decide)) S_a_NOT_NULL (Fld.ne F_ordinal_a_EQ F_ordinal_a_NOT_NULL (by decide)) (Fld.ne F_ordinal_a_IS_NULL F_ordinal_a_NOT_EQ (by decide)) (Fld.ne F_ordinal_a_NOT_NULL F_ordinal_a_NOT_EQ (by decide)) E_a_NOT_EQ (Fld.ne F_ordinal_a_EQ F_ordinal_a_NOT_EQ (by decide)) hj
      · exact rm0_44 l s _ hw tables_1 p0 p1 p2 p3 a_EQ a_NOT_EQ a_IS_NULL a_NOT_NULL s.heap s.heap.size (Nat.le_refl _) hk S_a_EQ F_ordinal_a_EQ E_a_EQ S_a_NOT_EQ S_a_IS_NULL (Fld.ne F_ordinal_a_EQ F_ordinal_a_IS_NULL (by decide)) S_a_NOT_NULL (Fld.ne F_ordinal_a_EQ F_ordinal_a_NOT_NULL (by decide)) (Fld.ne F_ordinal_a_IS_NULL F_ordinal_a_NOT_EQ (by decide)) (Fld.ne F_ordinal_a_NOT_NULL F_ordinal_a_NOT_EQ (by decide)) E_a_NOT_EQ (Fld.ne F_ordinal_a_EQ F_ordinal_a_NOT_EQ (by decide)) hj
    · rcases own_lcmp p2 p3 with hj | hj | hj
      · exact rm0_48 l s _ hw tables_1 p0 p1 p2 p3 a_NOT_EQ a_EQ a_IS_NULL a_NOT_NULL s.heap s.heap.size (Nat.le_refl _) hk S_a_NOT_EQ F_ordinal_a_NOT_EQ E_a_NOT_EQ S_a_EQ S_a_IS_NULL (Fld.ne F_ordinal_a_IS_NULL F_ordinal_a_NOT_EQ (by decide)) S_a_NOT_NULL (Fld.ne F_ordinal_a_NOT_NULL F_ordinal_a_NOT_EQ (by decide)) (Fld.ne F_ordinal_a_EQ F_ordinal_a_IS_NULL (by decide)) (Fld.ne F_ordinal_a_EQ F_ordinal_a_NOT_NULL (by decide)) E_a_EQ hj (Fld.ne F_ordinal_a_EQ F_ordinal_a_NOT_EQ (by decide))
      · exact rm0_49 l s _ hw tables_1 p0 p1 p2 p3 a_NOT_EQ a_EQ a_IS_NULL a_NOT_NULL s.heap s.heap.size (Nat.le_refl _) hk S_a_NOT_EQ F_ordinal_a_NOT_EQ E_a_NOT_EQ S_a_EQ S_a_IS_NULL (Fld.ne F_ordinal_a_IS_NULL F_ordinal_a_NOT_EQ (by decide)) S_a_NOT_NULL (Fld.ne F_ordinal_a_NOT_NULL F_ordinal_a_NOT_EQ (by decide)) (Fld.ne F_ordinal_a_EQ F_ordinal_a_IS_NULL (by decide)) (Fld.ne F_ordinal_a_EQ F_ordinal_a_NOT_NULL (by decide)) E_a_EQ hj (Fld.ne F_ordinal_a_EQ F_ordinal_a_NOT_EQ (by decide))
      · exact rm0_50 l s _ hw tables_1 p0 p1 p2 p3 a_NOT_EQ a_EQ a_IS_NULL a_NOT_NULL s.heap s.heap.size (Nat.le_refl _) hk S_a_NOT_EQ F_ordinal_a_NOT_EQ E_a_NOT_EQ S_a_EQ S_a_IS_NULL (Fld.ne F_ordinal_a_IS_NULL F_ordinal_a_NOT_EQ (by decide)) S_a_NOT_NULL (Fld.ne F_ordinal_a_NOT_NULL F_ordinal_a_NOT_EQ (by decide)) (Fld.ne F_ordinal_a_EQ F_ordinal_a_IS_NULL (by decide)) (Fld.ne F_ordinal_a_EQ F_ordinal_a_NOT_NULL (by decide)) E_a_EQ hj (Fld.ne F_ordinal_a_EQ F_ordinal_a_NOT_EQ (by decide))
    · rcases own_lcmp p2 p3 with hj | hj | hj
      · exact rm0_58 l s _ hw tables_1 p0 p1 p2 p3 a_LT a_GT_EQ a_IS_NULL a_NOT_NULL a_EQ a_NOT_EQ a_LT_EQ a_GT s.heap s.heap.size (Nat.le_refl _) hk S_a_LT F_ordinal_a_LT E_a_LT S_a_GT_EQ S_a_IS_NULL (Fld.ne F_ordinal_a_IS_NULL F_ordinal_a_LT (by decide)) S_a_NOT_NULL (Fld.ne F_ordinal_a_NOT_NULL F_ordinal_a_LT (by decide)) (Fld.ne F_ordinal_a_IS_NULL F_ordinal_a_GT_EQ (by decide)) (Fld.ne F_ordinal_a_NOT_NULL F_ordinal_a_GT_EQ (by decide)) E_a_GT_EQ S_a_EQ (Fld.ne F_ordinal_a_EQ F_ordinal_a_GT_EQ (by decide)) S_a_NOT_EQ (Fld.ne F_ordinal_a_NOT_EQ F_ordinal_a_GT_EQ (by decide)) (Fld.ne F_ordinal_a_LT F_ordinal_a_GT_EQ (by decide)) S_a_LT_EQ (Fld.ne F_ordinal_a_GT_EQ F_ordinal_a_LT_EQ (by decide)) S_a_GT (Fld.ne F_ordinal_a_GT_EQ F_ordinal_a_GT (by decide)) hj (Fld.ne F_ordinal_a_EQ F_ordinal_a_LT (by decide)) (Fld.ne F_ordinal_a_NOT_EQ F_ordinal_a_LT (by decide))
      · exact rm0_61 l s _ hw tables_1 p0 p1 p2 p3 a_LT a_GT_EQ a_IS_NULL a_NOT_NULL a_EQ a_NOT_EQ a_LT_EQ a_GT s.heap s.heap.size (Nat.le_refl _) hk S_a_LT F_ordinal_a_LT E_a_LT S_a_GT_EQ S_a_IS_NULL (Fld.ne F_ordinal_a_IS_NULL F_ordinal_a_LT (by decide)) S_a_NOT_NULL (Fld.ne F_ordinal_a_NOT_NULL F_ordinal_a_LT (by decide)) (Fld.ne F_ordinal_a_IS_NULL F_ordinal_a_GT_EQ (by decide)) (Fld.ne F_ordinal_a_NOT_NULL F_ordinal_a_GT_EQ (by decide)) E_a_GT_EQ S_a_EQ (Fld.ne F_ordinal_a_EQ F_ordinal_a_GT_EQ (by decide)) S_a_NOT_EQ (Fld.ne F_ordinal_a_NOT_EQ F_ordinal_a_GT_EQ (by decide)) (Fld.ne F_ordinal_a_LT F_ordinal_a_GT_EQ (by decide)) S_a_LT_EQ (Fld.ne F_ordinal_a_GT_EQ F_ordinal_a_LT_EQ (by decide)) S_a_GT (Fld.ne F_ordinal_a_GT_EQ F_ordinal_a_GT (by decide)) hj (Fld.ne F_ordinal_a_EQ F_ordinal_a_LT (by decide)) (Fld.ne F_ordinal_a_NOT_EQ F_ordinal_a_LT (by decide))
      · exact rm0_64 l s _ hw tables_1 p0 p1 p2 p3 a_LT a_GT_EQ a_IS_NULL a_NOT_NULL a_EQ a_NOT_EQ a_LT_EQ a_GT s.heap s.heap.size (Nat.le_refl _) hk S_a_LT F_ordinal_a_LT E_a_LT S_a_GT_EQ S_a_IS_NULL (Fld.ne F_ordinal_a_IS_NULL F_ordinal_a_LT (by decide)) S_a_NOT_NULL (Fld.ne F_ordinal_a_NOT_NULL F_ordinal_a_LT (by decide)) (Fld.ne F_ordinal_a_IS_NULL F_ordinal_a_GT_EQ (by decide)) (Fld.ne F_ordinal_a_NOT_NULL F_ordinal_a_GT_EQ (by decide)) E_a_GT_EQ S_a_EQ (Fld.ne F_ordinal_a_EQ F_ordinal_a_GT_EQ (by decide)) S_a_NOT_EQ (Fld.ne F_ordinal_a_NOT_EQ F_ordinal_a_GT_EQ (by decide)) (Fld.ne F_ordinal_a_LT F_ordinal_a_GT_EQ (by decide)) S_a_LT_EQ (Fld.ne F_ordinal_a_GT_EQ F_ordinal_a_LT_EQ (by decide)) S_a_GT (Fld.ne F_ordinal_a_GT_EQ F_ordinal_a_GT (by decide)) hj (Fld.ne F_ordinal_a_EQ F_ordinal_a_LT (by decide)) (Fld.ne F_ordinal_a_NOT_EQ F_ordinal_a_LT (by decide))
    · rcases own_lcmp p2 p3 with hj | hj | hj
      · exact rm0_72 l s _ hw tables_1 p0 p1 p2 p3 a_LT_EQ a_GT a_IS_NULL a_NOT_NULL a_EQ a_NOT_EQ a_LT s.heap s.heap.size (Nat.le_refl _) hk S_a_LT_EQ F_ordinal_a_LT_EQ E_a_LT_EQ S_a_GT S_a_IS_NULL (Fld.ne F_ordinal_a_IS_NULL F_ordinal_a_LT_EQ (by decide)) S_a_NOT_NULL (Fld.ne F_ordinal_a_NOT_NULL F_ordinal_a_LT_EQ (by decide)) (Fld.ne F_ordinal_a_IS_NULL F_ordinal_a_GT (by decide)) (Fld.ne F_ordinal_a_NOT_NULL F_ordinal_a_GT (by decide)) E_a_GT S_a_EQ (Fld.ne F_ordinal_a_EQ F_ordinal_a_GT (by decide)) S_a_NOT_EQ (Fld.ne F_ordinal_a_NOT_EQ F_ordinal_a_GT (by decide)) S_a_LT (Fld.ne F_ordinal_a_LT F_ordinal_a_GT (by decide)) (Fld.ne F_ordinal_a_LT_EQ F_ordinal_a_GT (by decide)) hj (Fld.ne F_ordinal_a_EQ F_ordinal_a_LT_EQ (by decide)) (Fld.ne F_ordinal_a_NOT_EQ F_ordinal_a_LT_EQ (by decide)) (Fld.ne F_ordinal_a_LT F_ordinal_a_LT_EQ (by decide))
      · exact rm0_75 l s _ hw tables_1 p0 p1 p2 p3 a_LT_EQ a_GT a_IS_NULL a_NOT_NULL a_EQ a_NOT_EQ a_LT s.heap s.heap.size (Nat.le_refl _) hk S_a_LT_EQ F_ordinal_a_LT_EQ E_a_LT_EQ S_a_GT S_a_IS_NULL (Fld.ne F_ordinal_a_IS_NULL F_ordinal_a_LT_EQ (by decide)) S_a_NOT_NULL (Fld.ne F_ordinal_a_NOT_NULL F_ordinal_a_LT_EQ (by decide)) (Fld.ne F_ordinal_a_IS_NULL F_ordinal_a_GT (by decide)) (Fld.ne F_ordinal_a_NOT_NULL F_ordinal_a_GT (by decide)) E_a_GT S_a_EQ (Fld.ne F_ordinal_a_EQ F_ordinal_a_GT (by decide)) S_a_NOT_EQ (Fld.ne F_ordinal_a_NOT_EQ F_ordinal_a_GT (by decide)) S_a_LT (Fld.ne F_ordinal_a_LT F_ordinal_a_GT (by decide)) (Fld.ne F_ordinal_a_LT_EQ F_ordinal_a_GT (by decide)) hj (Fld.ne F_ordinal_a_EQ F_ordinal_a_LT_EQ (by decide)) (Fld.ne F_ordinal_a_NOT_EQ F_ordinal_a_LT_EQ (by decide)) (Fld.ne F_ordinal_a_LT F_ordinal_a_LT_EQ (by decide))
      · exact rm0_78 l s _ hw tables_1 p0 p1 p2 p3 a_LT_EQ a_GT a_IS_NULL a_NOT_NULL a_EQ a_NOT_EQ a_LT s.heap s.heap.size (Nat.le_refl _) hk S_a_LT_EQ F_ordinal_a_LT_EQ E_a_LT_EQ S_a_GT S_a_IS_NULL (Fld.ne F_ordinal_a_IS_NULL F_ordinal_a_LT_EQ (by decide)) S_a_NOT_NULL (Fld.ne F_ordinal_a_NOT_NULL F_ordinal_a_LT_EQ (by decide)) (Fld.ne F_ordinal_a_IS_NULL F_ordinal_a_GT (by decide)) (Fld.ne F_ordinal_a_NOT_NULL F_ordinal_a_GT (by decide)) E_a_GT S_a_EQ (Fld.ne F_ordinal_a_EQ F_ordinal_a_GT (by decide)) S_a_NOT_EQ (Fld.ne F_ordinal_a_NOT_EQ F_ordinal_a_GT (by decide)) S_a_LT (Fld.ne F_ordinal_a_LT F_ordinal_a_GT (by decide)) (Fld.ne F_ordinal_a_LT_EQ F_ordinal_a_GT (by decide)) hj (Fld.ne F_ordinal_a_EQ F_ordinal_a_LT_EQ (by decide)) (Fld.ne F_ordinal_a_NOT_EQ F_ordinal_a_LT_EQ (by decide)) (Fld.ne F_ordinal_a_LT F_ordinal_a_LT_EQ (by decide))
    · rcases own_lcmp p2 p3 with hj | hj | hj
      · exact rm0_82 l s _ hw tables_1 p0 p1 p2 p3 a_GT a_LT_EQ a_IS_NULL a_NOT_NULL a_EQ a_NOT_EQ a_LT s.heap s.heap.size (Nat.le_refl _) hk S_a_GT F_ordinal_a_GT E_a_GT S_a_LT_EQ S_a_IS_NULL (Fld.ne F_ordinal_a_IS_NULL F_ordinal_a_GT (by decide)) S_a_NOT_NULL (Fld.ne F_ordinal_a_NOT_NULL F_ordinal_a_GT (by decide)) (Fld.ne F_ordinal_a_IS_NULL F_ordinal_a_LT_EQ (by decide)) (Fld.ne F_ordinal_a_NOT_NULL F_ordinal_a_LT_EQ (by decide)) E_a_LT_EQ S_a_EQ (Fld.ne F_ordinal_a_EQ F_ordinal_a_LT_EQ (by decide)) S_a_NOT_EQ (Fld.ne F_ordinal_a_NOT_EQ F_ordinal_a_LT_EQ (by decide)) S_a_LT (Fld.ne F_ordinal_a_LT F_ordinal_a_LT_EQ (by decide)) hj (Fld.ne F_ordinal_a_EQ F_ordinal_a_GT (by decide)) (Fld.ne F_ordinal_a_NOT_EQ F_ordinal_a_GT (by decide)) (Fld.ne F_ordinal_a_LT F_ordinal_a_GT (by decide)) (Fld.ne F_ordinal_a_LT_EQ F_ordinal_a_GT (by decide))
      · exact rm0_83 l s _ hw tables_1 p0 p1 p2 p3 a_GT a_LT_EQ a_IS_NULL a_NOT_NULL a_EQ a_NOT_EQ a_LT s.heap s.heap.size (Nat.le_refl _) hk S_a_GT F_ordinal_a_GT E_a_GT S_a_LT_EQ S_a_IS_NULL (Fld.ne F_ordinal_a_IS_NULL F_ordinal_a_GT (by decide)) S_a_NOT_NULL (Fld.ne F_ordinal_a_NOT_NULL F_ordinal_a_GT (by decide)) (Fld.ne F_ordinal_a_IS_NULL F_ordinal_a_LT_EQ (by decide)) (Fld.ne F_ordinal_a_NOT_NULL F_ordinal_a_LT_EQ (by decide)) E_a_LT_EQ S_a_EQ (Fld.ne F_ordinal_a_EQ F_ordinal_a_LT_EQ (by decide)) S_a_NOT_EQ (Fld.ne F_ordinal_a_NOT_EQ F_ordinal_a_LT_EQ (by decide)) S_a_LT (Fld.ne F_ordinal_a_LT F_ordinal_a_LT_EQ (by decide)) hj (Fld.ne F_ordinal_a_EQ F_ordinal_a_GT (by decide)) (Fld.ne F_ordinal_a_NOT_EQ F_ordinal_a_GT (by decide)) (Fld.ne F_ordinal_a_LT F_ordinal_a_GT (by decide)) (Fld.ne F_ordinal_a_LT_EQ F_ordinal_a_GT (by decide))
      · exact rm0_84 l s _ hw tables_1 p0 p1 p2 p3 a_GT a_LT_EQ a_IS_NULL a_NOT_NULL a_EQ a_NOT_EQ a_LT s.heap s.heap.size (Nat.le_refl _) hk S_a_GT F_ordinal_a_GT E_a_GT S_a_LT_EQ S_a_IS_NULL (Fld.ne F_ordinal_a_IS_NULL F_ordinal_a_GT (by decide)) S_a_NOT_NULL (Fld.ne F_ordinal_a_NOT_NULL F_ordinal_a_GT (by decide)) (Fld.ne F_ordinal_a_IS_NULL F_ordinal_a_LT_EQ (by decide)) (Fld.ne F_ordinal_a_NOT_NULL F_ordinal_a_LT_EQ (by decide)) E_a_LT_EQ S_a_EQ (Fld.ne F_ordinal_a_EQ F_ordinal_a_LT_EQ (by decide)) S_a_NOT_EQ (Fld.ne F_ordinal_a_NOT_EQ F_ordinal_a_LT_EQ (by decide)) S_a_LT (Fld.ne F_ordinal_a_LT F_ordinal_a_LT_EQ (by decide)) hj (Fld.ne F_ordinal_a_EQ F_ordinal_a_GT (by decide)) (Fld.ne F_ordinal_a_NOT_EQ F_ordinal_a_GT (by decide)) (Fld.ne F_ordinal_a_LT F_ordinal_a_GT (by decide)) (Fld.ne F_ordinal_a_LT_EQ F_ordinal_a_GT (by decide))
    · rcases own_lcmp p2 p3 with hj | hj | hj
      · exact rm0_88 l s _ hw tables_1 p0 p1 p2 p3 a_GT_EQ a_LT a_IS_NULL a_NOT_NULL a_EQ a_NOT_EQ a_LT_EQ a_GT s.heap s.heap.size (Nat.le_refl _) hk S_a_GT_EQ F_ordinal_a_GT_EQ E_a_GT_EQ S_a_LT S_a_IS_NULL (Fld.ne F_ordinal_a_IS_NULL F_ordinal_a_GT_EQ (by decide)) S_a_NOT_NULL (Fld.ne F_ordinal_a_NOT_NULL F_ordinal_a_GT_EQ (by decide)) (Fld.ne F_ordinal_a_IS_NULL F_ordinal_a_LT (by decide)) (Fld.ne F_ordinal_a_NOT_NULL F_ordinal_a_LT (by decide)) E_a_LT S_a_EQ (Fld.ne F_ordinal_a_EQ F_ordinal_a_LT (by decide)) S_a_NOT_EQ (Fld.ne F_ordinal_a_NOT_EQ F_ordinal_a_LT (by decide)) hj (Fld.ne F_ordinal_a_EQ F_ordinal_a_GT_EQ (by decide)) (Fld.ne F_ordinal_a_NOT_EQ F_ordinal_a_GT_EQ (by decide)) (Fld.ne F_ordinal_a_LT F_ordinal_a_GT_EQ (by decide)) S_a_LT_EQ (Fld.ne F_ordinal_a_GT_EQ F_ordinal_a_LT_EQ (by decide)) S_a_GT (Fld.ne F_ordinal_a_GT_EQ F_ordinal_a_GT (by decide))
      · exact rm0_89 l s _ hw tables_1 p0 p1 p2 p3 a_GT_EQ a_LT a_IS_NULL a_NOT_NULL a_EQ a_NOT_EQ a_LT_EQ a_GT s.heap s.heap.size (Nat.le_refl _) hk S_a_GT_EQ F_ordinal_a_GT_EQ E_a_GT_EQ S_a_LT S_a_IS_NULL (Fld.ne F_ordinal_a_IS_NULL F_ordinal_a_GT_EQ (by decide)) S_a_NOT_NULL (Fld.ne F_ordinal_a_NOT_NULL F_ordinal_a_GT_EQ (by decide)) (Fld.ne F_ordinal_a_IS_NULL F_ordinal_a_LT (by decide)) (Fld.ne F_ordinal_a_NOT_NULL F_ordinal_a_LT (by decide)) E_a_LT S_a_EQ (Fld.ne F_ordinal_a_EQ F_ordinal_a_LT (by decide)) S_a_NOT_EQ (Fld.ne F_ordinal_a_NOT_EQ F_ordinal_a_LT (by decide)) hj (Fld.ne F_ordinal_a_EQ F_ordinal_a_GT_EQ (by decide)) (Fld.ne F_ordinal_a_NOT_EQ F_ordinal_a_GT_EQ (by decide)) (Fld.ne F_ordinal_a_LT F_ordinal_a_GT_EQ (by decide)) S_a_LT_EQ (Fld.ne F_ordinal_a_GT_EQ F_ordinal_a_LT_EQ (by decide)) S_a_GT (Fld.ne F_ordinal_a_GT_EQ F_ordinal_a_GT (by decide))
      · exact rm0_90 l s _ hw tables_1 p0 p1 p2 p3 a_GT_EQ a_LT a_IS_NULL a_NOT_NULL a_EQ a_NOT_EQ a_LT_EQ a_GT s.heap s.heap.size (Nat.le_refl _) hk S_a_GT_EQ F_ordinal_a_GT_EQ E_a_GT_EQ S_a_LT S_a_IS_NULL (Fld.ne F_ordinal_a_IS_NULL F_ordinal_a_GT_EQ (by decide)) S_a_NOT_NULL (Fld.ne F_ordinal_a_NOT_NULL F_ordinal_a_GT_EQ (by decide)) (Fld.ne F_ordinal_a_IS_NULL F_ordinal_a_LT (by decide)) (Fld.ne F_ordinal_a_NOT_NULL F_ordinal_a_LT (by decide)) E_a_LT S_a_EQ (Fld.ne F_ordinal_a_EQ F_ordinal_a_LT (by decide)) S_a_NOT_EQ (Fld.ne F_ordinal_a_NOT_EQ F_ordinal_a_LT (by decide)) hj (Fld.ne F_ordinal_a_EQ F_ordinal_a_GT_EQ (by decide)) (Fld.ne F_ordinal_a_NOT_EQ F_ordinal_a_GT_EQ (by decide)) (Fld.ne F_ordinal_a_LT F_ordinal_a_GT_EQ (by decide)) S_a_LT_EQ (Fld.ne F_ordinal_a_GT_EQ F_ordinal_a_LT_EQ (by decide)) S_a_GT (Fld.ne F_ordinal_a_GT_EQ F_ordinal_a_GT (by decide))
    · rcases own_and1 p1 with hj | hj
      · exact rm0_98 l s _ hw tables_1 p0 p1 p2 p3 a_IS_NULL a_NOT_NULL s.heap s.heap.size (Nat.le_refl _) hk S_a_IS_NULL F_ordinal_a_IS_NULL E_a_IS_NULL S_a_NOT_NULL hj (Fld.ne F_ordinal_a_IS_NULL F_ordinal_a_NOT_NULL (by decide)) E_a_NOT_NULL
      · exact rm0_101 l s _ hw tables_1 p0 p1 p2 p3 a_IS_NULL a_NOT_NULL s.heap s.heap.size (Nat.le_refl _) hk S_a_IS_NULL F_ordinal_a_IS_NULL E_a_IS_NULL S_a_NOT_NULL hj (Fld.ne F_ordinal_a_IS_NULL F_ordinal_a_NOT_NULL (by decide)) E_a_NOT_NULL
    · rcases own_and1 p1 with hj | hj
      · exact rm0_105 l s _ hw tables_1 p0 p1 p2 p3 a_NOT_NULL a_IS_NULL s.heap s.heap.size (Nat.le_refl _) hk S_a_NOT_NULL F_ordinal_a_NOT_NULL E_a_NOT_NULL S_a_IS_NULL (Fld.ne F_ordinal_a_IS_NULL F_ordinal_a_NOT_NULL (by decide)) hj E_a_IS_NULL
      · exact rm0_106 l s _ hw tables_1 p0 p1 p2 p3 a_NOT_NULL a_IS_NULL s.heap s.heap.size (Nat.le_refl _) hk S_a_NOT_NULL F_ordinal_a_NOT_NULL E_a_NOT_NULL S_a_IS_NULL (Fld.ne F_ordinal_a_IS_NULL F_ordinal_a_NOT_NULL (by decide)) hj E_a_IS_NULL
  obtain ⟨n, o, h1, h2, h3, _, L, rfl, ⟨rfl, N⟩, hq⟩ := M p e ha hc hk s m _ below hf ((Spec.applies_iff_loose hf).mp happ).1 ⟨rfl, State.Warmed39.refl s, rfl⟩ trivial
  refine ⟨n, _, h1, h2, h3, hpost _ _ _ _ _ _ ⟨Cond.after_iff.mpr rfl, Cond.after_iff.mpr (eq_i res_at (Term.int_eval (1)) rfl), trivial⟩ ⟨hq.1, hq.2.1, (hq.2.2.sift fun y hy => Or.inr (N y hy)).mono (by decide) (by decide)⟩⟩
theorem main_1_1 : Claimed_1_1 := comes_1 fun _ _ _ _ _ _ h hF => ⟨h.1, hF⟩
theorem main_1_2 : Claimed_1_2 := comes_1 fun _ _ _ _ _ _ h hF => ⟨h.2.1, hF⟩
end Jvm.Pilot.@@N@@
namespace Jvm.Pilot.@@N@@
open Jvm Jvm.ClassFile Sem Op Lib Jvm.Free Jvm.Stand Jvm.Pilot.@@N@@.Jvm.D
/-! MADE BY PROGRAM (witnessworld.py) out of the Statement's table words and the real class files: 10 classes; the members and pool entries that the words name. The judged class is class 1, her method 3. -/
namespace start1
open Jvm.ClassFile
def u (s : String) : CpInfo := .utf8 (stringToUtf16 s)
/-- a pool by its gaps: so many unusable entries, then the entry; so many at the end -/
def gap : Nat → List CpInfo → List CpInfo
  | 0, r => r
  | n + 1, r => .unusable :: gap n r
def poolList (es : List (Nat × CpInfo)) (last : Nat) : List CpInfo := es.foldr (fun e r => gap e.1 (e.2 :: r)) (gap last [])
def pool (es : List (Nat × CpInfo)) (last : Nat) : Array CpInfo := ⟨poolList es last⟩
def fileOf (pool : Array CpInfo) (this : Nat) (attrs : Array Attribute := #[]) (ms : Array MethodInfo := #[]) (fl : Nat := 33) (sup : Nat := 0) (ifs : Array Nat := #[]) (fds : Array FieldInfo := #[]) : ClassFile where
  minorVersion := 0
  majorVersion := 65
  constantPool := pool
  accessFlags := fl
  thisClass := this
  superClass := sup
  interfaces := ifs
  fields := fds
  methods := ms
  attributes := attrs
def plain (name : String) (sup : Option ClassId) : Class where
  name := name
  kind := .ordinary
  loader := none
  accessFlags := 33
  super := sup
  interfaces := #[]
  cf := none
  fields := #[]
  methods := #[]
  instanceTypes := #[]
  staticTypes := #[]
  resolved := #[]
  callSites := []
  init := .initialized
  statics := none
  mirror := none

def pool0 : Array CpInfo := pool [(5, u "<init>"), (0, u "()V"), (1, .class_ 10), (1, u "java/lang/Object")] 113

def k0m0 : Method := { name := "<init>", desc := "()V", sig := { parameters := [], returnType := none }, accessFlags := 1, code := none }
/-- java/lang/Object -/
def k0 : Class := { plain "java/lang/Object" none with
  accessFlags := 33
  interfaces := #[]
  cf := some (fileOf pool0 8 #[] #[{ accessFlags := 1, nameIndex := 5, descriptorIndex := 6, attributes := #[] }] 33 0 #[] #[])
  fields := #[]
  methods := #[k0m0]
  instanceTypes := #[]
  staticTypes := #[]
  resolved := Array.replicate 124 none
  statics := none }

def pool1 : Array CpInfo := pool [(2, .class_ 4), (1, u "java/lang/Object"), (0, u "<init>"), (0, u "()V"), (0, .fieldref 8 9), (0, .class_ 10), (0, .nameAndType 11 12), (0, u "com/example/floe/floe/Expression$Operation"), (0, u "EQ"), (0, u "Lcom/example/floe/floe/Expression$Operation;"), (0, .fieldref 8 14), (0, .nameAndType 15 12), (0, u "NOT_EQ"), (0, .fieldref 8 17), (0, .nameAndType 18 12), (0, u "LT"), (0, .fieldref 8 20), (0, .nameAndType 21 12), (0, u "LT_EQ"), (0, .fieldref 8 23), (0, .nameAndType 24 12), (0, u "GT"), (0, .fieldref 8 26), (0, .nameAndType 27 12), (0, u "GT_EQ"), (0, .fieldref 8 29), (0, .nameAndType 30 12), (0, u "IS_NULL"), (0, .fieldref 8 32), (0, .nameAndType 33 12), (0, u "NOT_NULL"), (0, .methodref 35 36), (0, .class_ 37), (0, .nameAndType 38 39), (0, u "com/example/floe/floe/OperationNegatePinLaw"), (0, u "pick"), (0, u "(I)Lcom/example/floe/floe/Expression$Operation;"), (0, .methodref 8 41), (0, .nameAndType 42 43), (0, u "negate"), (0, u "()Lcom/example/floe/floe/Expression$Operation;"), (0, .methodref 8 45), (0, .nameAndType 46 47), (0, u "compares"), (0, u "()Z"), (0, .methodref 35 49), (0, .nameAndType 50 51), (0, u "holds"), (0, u "(Lcom/example/floe/floe/Expression$Operation;ZJJ)Z"), (3, u "law"), (0, u "(IIJJ)Z")] 6

def k1m0 : Method := { name := "<init>", desc := "()V", sig := { parameters := [], returnType := none }, accessFlags := 1, code := none }
def k1c1 : Code := { maxStack := 2, maxLocals := 2, code := method_2_code, exceptionTable := #[], attributes := #[] }
def k1m1 : Method := { name := "pick", desc := "(I)Lcom/example/floe/floe/Expression$Operation;", sig := { parameters := [.int], returnType := some (.object "com/example/floe/floe/Expression$Operation") }, accessFlags := 10, code := some k1c1 }
def k1c2 : Code := { maxStack := 4, maxLocals := 6, code := method_3_code, exceptionTable := #[], attributes := #[] }
def k1m2 : Method := { name := "holds", desc := "(Lcom/example/floe/floe/Expression$Operation;ZJJ)Z", sig := { parameters := [(.object "com/example/floe/floe/Expression$Operation"), .boolean, .long, .long], returnType := some .boolean }, accessFlags := 10, code := some k1c2 }
def k1c3 : Code := { maxStack := 7, maxLocals := 10, code := code, exceptionTable := #[], attributes := #[] }
def k1m3 : Method := { name := "law", desc := "(IIJJ)Z", sig := { parameters := [.int, .int, .long, .long], returnType := some .boolean }, accessFlags := 9, code := some k1c3 }
/-- com/example/floe/floe/OperationNegatePinLaw -/
def k1 : Class := { plain "com/example/floe/floe/OperationNegatePinLaw" (some 0) with
  accessFlags := 49
  interfaces := #[]
  cf := some (fileOf pool1 35 #[] #[{ accessFlags := 1, nameIndex := 5, descriptorIndex := 6, attributes := #[] }, { accessFlags := 10, nameIndex := 38, descriptorIndex := 39, attributes := #[] }, { accessFlags := 10, nameIndex := 50, descriptorIndex := 51, attributes := #[] }, { accessFlags := 9, nameIndex := 55, descriptorIndex := 56, attributes := #[] }] 49 2 #[] #[])
  fields := #[]
  methods := #[k1m0, k1m1, k1m2, k1m3]
  instanceTypes := #[]
  staticTypes := #[]
  resolved := Array.replicate 63 none
  statics := none }

def pool2 : Array CpInfo := pool [(1, .class_ 2), (0, u "java/lang/constant/Constable"), (0, .class_ 4), (0, u "java/lang/Object")] 6

/-- java/lang/constant/Constable -/
def k2 : Class := { plain "java/lang/constant/Constable" (some 0) with
  accessFlags := 1537
  interfaces := #[]
  cf := some (fileOf pool2 1 #[] #[] 1537 3 #[] #[])
  fields := #[]
  methods := #[]
  instanceTypes := #[]
  staticTypes := #[]
  resolved := Array.replicate 11 none
  statics := none }

def pool3 : Array CpInfo := pool [(1, .class_ 2), (0, u "java/lang/Comparable"), (0, .class_ 4), (0, u "java/lang/Object")] 7

/-- java/lang/Comparable -/
def k3 : Class := { plain "java/lang/Comparable" (some 0) with
  accessFlags := 1537
  interfaces := #[]
  cf := some (fileOf pool3 1 #[] #[] 1537 3 #[] #[])
  fields := #[]
  methods := #[]
  instanceTypes := #[]
  staticTypes := #[]
  resolved := Array.replicate 12 none
  statics := none }

def pool4 : Array CpInfo := pool [(1, .class_ 2), (0, u "java/io/Serializable"), (0, .class_ 4), (0, u "java/lang/Object")] 2

/-- java/io/Serializable -/
def k4 : Class := { plain "java/io/Serializable" (some 0) with
  accessFlags := 1537
  interfaces := #[]
  cf := some (fileOf pool4 1 #[] #[] 1537 3 #[] #[])
  fields := #[]
  methods := #[]
  instanceTypes := #[]
  staticTypes := #[]
  resolved := Array.replicate 7 none
  statics := none }

def pool5 : Array CpInfo := pool [(2, .class_ 4), (1, u "java/lang/Enum"), (0, u "name"), (0, u "Ljava/lang/String;"), (0, .fieldref 2 8), (0, .nameAndType 9 10), (0, u "ordinal"), (0, u "I"), (1, .class_ 14), (1, u "java/lang/Object"), (4, u "hash"), (86, .class_ 108), (1, u "java/lang/Enum$EnumDesc"), (2, .class_ 112), (0, u "java/lang/constant/Constable"), (0, .class_ 114), (0, u "java/lang/Comparable"), (0, .class_ 116), (0, u "java/io/Serializable"), (9, u "()I")] 77

def k5c0 : Code := { maxStack := 1, maxLocals := 1, code := jdk_37_method_2_code, exceptionTable := #[], attributes := #[] }
def k5m0 : Method := { name := "ordinal", desc := "()I", sig := { parameters := [], returnType := some .int }, accessFlags := 17, code := some k5c0 }
/-- java/lang/Enum -/
def k5 : Class := { plain "java/lang/Enum" (some 0) with
  accessFlags := 1057
  interfaces := #[2, 3, 4]
  cf := some (fileOf pool5 2 #[.nestMembers #[106]] #[{ accessFlags := 17, nameIndex := 9, descriptorIndex := 126, attributes := #[] }] 1057 12 #[111, 113, 115] #[{ accessFlags := 18, nameIndex := 5, descriptorIndex := 6, attributes := #[] }, { accessFlags := 18, nameIndex := 9, descriptorIndex := 10, attributes := #[] }, { accessFlags := 2, nameIndex := 19, descriptorIndex := 10, attributes := #[] }])
  fields := #[{ name := "name", type := (.object "java/lang/String"), accessFlags := 18, slot := 0, constantValue := 0 }, { name := "ordinal", type := .int, accessFlags := 18, slot := 1, constantValue := 0 }, { name := "hash", type := .int, accessFlags := 2, slot := 2, constantValue := 0 }]
  methods := #[k5m0]
  instanceTypes := #[(.object "java/lang/String"), .int, .int]
  staticTypes := #[]
  resolved := Array.replicate 204 none
  statics := none }

def pool6 : Array CpInfo := pool [(1, .class_ 2), (0, u "com/example/floe/floe/Expression$Operation"), (0, .fieldref 1 4), (0, .nameAndType 5 6), (0, u "EQ"), (0, u "Lcom/example/floe/floe/Expression$Operation;"), (0, .fieldref 1 8), (0, .nameAndType 9 6), (0, u "NOT_EQ"), (0, .fieldref 1 11), (0, .nameAndType 12 6), (0, u "LT"), (0, .fieldref 1 14), (0, .nameAndType 15 6), (0, u "LT_EQ"), (0, .fieldref 1 17), (0, .nameAndType 18 6), (0, u "GT"), (0, .fieldref 1 20), (0, .nameAndType 21 6), (0, u "GT_EQ"), (0, .fieldref 1 23), (0, .nameAndType 24 6), (0, u "IS_NULL"), (0, .fieldref 1 26), (0, .nameAndType 27 6), (0, u "NOT_NULL"), (2, u "$VALUES"), (0, u "[Lcom/example/floe/floe/Expression$Operation;"), (6, .class_ 40), (1, u "java/lang/Enum"), (8, u "symbol"), (0, u "Ljava/lang/String;"), (0, .methodref 1 52), (0, .nameAndType 53 54), (0, u "ordinal"), (0, u "()I"), (44, u "compares"), (0, u "()Z"), (2, u "negate"), (0, u "()Lcom/example/floe/floe/Expression$Operation;"), (6, .class_ 112), (0, u "com/example/floe/floe/Expression")] 2

def k6c0 : Code := { maxStack := 2, maxLocals := 1, code := prog_13_method_5_code, exceptionTable := #[], attributes := #[] }
def k6m0 : Method := { name := "compares", desc := "()Z", sig := { parameters := [], returnType := some .boolean }, accessFlags := 1, code := some k6c0 }
def k6c1 : Code := { maxStack := 4, maxLocals := 1, code := prog_13_method_7_code, exceptionTable := #[], attributes := #[] }
def k6m1 : Method := { name := "negate", desc := "()Lcom/example/floe/floe/Expression$Operation;", sig := { parameters := [], returnType := some (.object "com/example/floe/floe/Expression$Operation") }, accessFlags := 1, code := some k6c1 }
/-- com/example/floe/floe/Expression$Operation -/
def k6 : Class := { plain "com/example/floe/floe/Expression$Operation" (some 5) with
  accessFlags := 16433
  interfaces := #[]
  cf := some (fileOf pool6 1 #[.nestHost 111] #[{ accessFlags := 1, nameIndex := 99, descriptorIndex := 100, attributes := #[] }, { accessFlags := 1, nameIndex := 103, descriptorIndex := 104, attributes := #[] }] 16433 38 #[] #[{ accessFlags := 16409, nameIndex := 5, descriptorIndex := 6, attributes := #[] }, { accessFlags := 16409, nameIndex := 9, descriptorIndex := 6, attributes := #[] }, { accessFlags := 16409, nameIndex := 12, descriptorIndex := 6, attributes := #[] }, { accessFlags := 16409, nameIndex := 15, descriptorIndex := 6, attributes := #[] }, { accessFlags := 16409, nameIndex := 18, descriptorIndex := 6, attributes := #[] }, { accessFlags := 16409, nameIndex := 21, descriptorIndex := 6, attributes := #[] }, { accessFlags := 16409, nameIndex := 24, descriptorIndex := 6, attributes := #[] }, { accessFlags := 16409, nameIndex := 27, descriptorIndex := 6, attributes := #[] }, { accessFlags := 18, nameIndex := 49, descriptorIndex := 50, attributes := #[] }, { accessFlags := 4122, nameIndex := 30, descriptorIndex := 31, attributes := #[] }])
  fields := #[{ name := "EQ", type := (.object "com/example/floe/floe/Expression$Operation"), accessFlags := 16409, slot := 0, constantValue := 0 }, { name := "NOT_EQ", type := (.object "com/example/floe/floe/Expression$Operation"), accessFlags := 16409, slot := 1, constantValue := 0 }, { name := "LT", type := (.object "com/example/floe/floe/Expression$Operation"), accessFlags := 16409, slot := 2, constantValue := 0 }, { name := "LT_EQ", type := (.object "com/example/floe/floe/Expression$Operation"), accessFlags := 16409, slot := 3, constantValue := 0 }, { name := "GT", type := (.object "com/example/floe/floe/Expression$Operation"), accessFlags := 16409, slot := 4, constantValue := 0 }, { name := "GT_EQ", type := (.object "com/example/floe/floe/Expression$Operation"), accessFlags := 16409, slot := 5, constantValue := 0 }, { name := "IS_NULL", type := (.object "com/example/floe/floe/Expression$Operation"), accessFlags := 16409, slot := 6, constantValue := 0 }, { name := "NOT_NULL", type := (.object "com/example/floe/floe/Expression$Operation"), accessFlags := 16409, slot := 7, constantValue := 0 }, { name := "symbol", type := (.object "java/lang/String"), accessFlags := 18, slot := 3, constantValue := 0 }, { name := "$VALUES", type := (.array (.object "com/example/floe/floe/Expression$Operation")), accessFlags := 4122, slot := 8, constantValue := 0 }]
  methods := #[k6m0, k6m1]
  instanceTypes := #[(.object "java/lang/String"), .int, .int, (.object "java/lang/String")]
  staticTypes := #[(.object "com/example/floe/floe/Expression$Operation"), (.object "com/example/floe/floe/Expression$Operation"), (.object "com/example/floe/floe/Expression$Operation"), (.object "com/example/floe/floe/Expression$Operation"), (.object "com/example/floe/floe/Expression$Operation"), (.object "com/example/floe/floe/Expression$Operation"), (.object "com/example/floe/floe/Expression$Operation"), (.object "com/example/floe/floe/Expression$Operation"), (.array (.object "com/example/floe/floe/Expression$Operation"))]
  resolved := Array.replicate 115 none
  statics := some 0 }

def pool7 : Array CpInfo := pool [(1, u "java/lang/Cloneable"), (0, .class_ 1), (0, u "java/lang/Object"), (0, .class_ 3)] 3

/-- java/lang/Cloneable -/
def k7 : Class := { plain "java/lang/Cloneable" (some 0) with
  accessFlags := 1537
  interfaces := #[]
  cf := some (fileOf pool7 2 #[] #[] 1537 4 #[] #[])
  fields := #[]
  methods := #[]
  instanceTypes := #[]
  staticTypes := #[]
  resolved := Array.replicate 8 none
  statics := none }

/-- the primitive byte -/
def k8 : Class := { plain "byte" none with kind := .primitive 'B', accessFlags := 0x411 }
/-- [B -/
def k9 : Class := { plain "[B" (some 0) with kind := .array 8 .byte, interfaces := #[7, 4], accessFlags := 1041 }

def heap : Heap := #[{ cls := 6, slots := #[.ref 1, .ref 2, .ref 5, .ref 7, .ref 8, .ref 6, .ref 3, .ref 4, .null], vm := .statics 6 },
  { cls := 6, slots := #[.null, .int 0, .int 0, .null], vm := .none },
  { cls := 6, slots := #[.null, .int 1, .int 0, .null], vm := .none },
  { cls := 6, slots := #[.null, .int 6, .int 0, .null], vm := .none },
  { cls := 6, slots := #[.null, .int 7, .int 0, .null], vm := .none },
  { cls := 6, slots := #[.null, .int 2, .int 0, .null], vm := .none },
  { cls := 6, slots := #[.null, .int 5, .int 0, .null], vm := .none },
  { cls := 6, slots := #[.null, .int 3, .int 0, .null], vm := .none },
  { cls := 6, slots := #[.null, .int 4, .int 0, .null], vm := .none }]
def classes : Array Class := #[k0, k1, k2, k3, k4, k5, k6, k7, k8, k9]
def interned : List (Array UInt16 × Addr) := []
def slotsUsed : Nat := 41
def theMethod : MethodId := ⟨1, 3⟩
def args0 : Array Value := #[.int 5, .int 3, .long 7, .long 2]
def aboutOver (below : List Frame) : State where
  vm := { classes := classes, interned := interned.toArray }
  heap := heap
  slotsUsed := slotsUsed
  threads := #[{ frames := .invoking theMethod args0 :: below }]
def below0 : List Frame := [.native { method := ⟨0, 0⟩, args := #[] }]
def about1 : State := aboutOver below0
def p0 : Program := .bare "" "" ""
def e0 : Env := launch0.env 0 0 0
theorem w_frames : about1.frames = Frame.invoking theMethod args0 :: below0 := rfl
set_option maxRecDepth 65536 in
theorem w_args : argsFit about1.vm theMethod args0 = true := by decide +kernel
set_option maxRecDepth 65536 in
theorem w_heap : heapFits about1 = true := by decide +kernel
set_option maxRecDepth 65536 in
theorem w_runnable : about1.curStatus? = some .runnable := by decide +kernel
set_option maxRecDepth 65536 in
theorem w_alone : about1.alone = true := by decide +kernel
set_option maxRecDepth 65536 in
theorem w_named : about1.methodNamed? x = some theMethod := by decide +kernel
set_option maxRecDepth 65536 in
theorem w_hears : about1.hears theMethod below0 = true := by decide +kernel
set_option maxRecDepth 65536 in
theorem w_ripe : about1.ripe theMethod args0 below0 = true := by decide +kernel
theorem w_running : about1.status = .running := rfl
set_option maxRecDepth 65536 in
theorem w_room : about1.hasRoom e0.platform room_1 = true :=
  launch0.hasRoom_least _ room_1 (by decide +kernel) (by decide +kernel) (by decide +kernel) (by decide +kernel) (by decide +kernel) (by decide +kernel)
theorem allAtoms_all (ts : List Jvm.Cond) (a : Array Jvm.Value) (st : Jvm.State) : (allAtoms ts).before a st = ts.all (fun c => c.before a st) := by
  induction ts with
  | nil => rfl
  | cons c t ih =>
    show (Jvm.Cond.and c (allAtoms t)).before a st = _
    rw [Jvm.Cond.before_and, ih, List.all_cons]
def words1 : List Jvm.Cond := Jvm.Cond.code x code maxLocals ret :: tables_1
/-- a 'code' word, met by the world's own term for the bytes: nothing is compared byte by byte -/
theorem code_word {y : MethodName} {bytes : ByteArray} {mx : Nat} {rt : Option FieldType} {a : Array Value} {s : State} {m : MethodId} {meth : Method} {c : Code} (h1 : s.methodNamed? y = some m) (h2 : s.vm.method? m = some meth) (h3 : meth.code = some c) (h4 : c.code = bytes)
    (h5 : (c.maxLocals == mx && c.exceptionTable.isEmpty && decide (c.maxStack ≤ mostOperands) && decide (meth.sig.returnType = rt) && !meth.locks && decide (parseMethodDescriptor y.desc = some meth.sig)) = true) : (Jvm.Cond.code y bytes mx rt).before a s = true := by
  simp only [Bool.and_eq_true, beq_iff_eq, Bool.not_eq_true', decide_eq_true_eq] at h5
  obtain ⟨⟨⟨⟨⟨g1, g2⟩, g3⟩, g4⟩, g5⟩, g6⟩ := h5
  simp [Cond.before, Cond.holds, Cond.value, h1, h2, h3, h4, g1, g2, g3, g4, g5, g6]
def isCode : Jvm.Cond → Bool
  | .code _ _ _ _ => true
  | _ => false
theorem all_split {L : List Jvm.Cond} {P : Jvm.Cond → Bool} (h1 : L.all (fun c => isCode c || P c) = true) (h2 : ∀ c ∈ L.filter isCode, P c = true) : L.all P = true := by
  refine List.all_eq_true.mpr fun c hc => ?_
  have h := List.all_eq_true.mp h1 c hc
  rcases Bool.eq_false_or_eq_true (isCode c) with hi | hi
  · exact h2 c (List.mem_filter.mpr ⟨hc, hi⟩)
  · simpa [hi] using h
set_option maxRecDepth 65536 in
theorem w_c0 : (Jvm.Cond.code x code maxLocals ret).before args0 about1 = true := code_word (m := ⟨1, 3⟩) (meth := k1m3) (c := k1c3) (by decide +kernel) rfl rfl rfl (by decide +kernel)
set_option maxRecDepth 65536 in
theorem w_c1 : (Jvm.Cond.code ({ cls := "com/example/floe/floe/OperationNegatePinLaw", name := "pick", desc := "(I)Lcom/example/floe/floe/Expression$Operation;" } : Jvm.MethodName) method_2_code (2 : Nat) (Option.some (Jvm.ClassFile.FieldType.object "com/example/floe/floe/Expression$Operation"))).before args0 about1 = true := code_word (m := ⟨1, 1⟩) (meth := k1m1) (c := k1c1) (by decide +kernel) rfl rfl rfl (by decide +kernel)
set_option maxRecDepth 65536 in
theorem w_c2 : (Jvm.Cond.code ({ cls := "com/example/floe/floe/Expression$Operation", name := "negate", desc := "()Lcom/example/floe/floe/Expression$Operation;" } : Jvm.MethodName) prog_13_method_7_code (1 : Nat) (Option.some (Jvm.ClassFile.FieldType.object "com/example/floe/floe/Expression$Operation"))).before args0 about1 = true := code_word (m := ⟨6, 1⟩) (meth := k6m1) (c := k6c1) (by decide +kernel) rfl rfl rfl (by decide +kernel)
set_option maxRecDepth 65536 in
theorem w_c3 : (Jvm.Cond.code ({ cls := "java/lang/Enum", name := "ordinal", desc := "()I" } : Jvm.MethodName) jdk_37_method_2_code (1 : Nat) (Option.some Jvm.ClassFile.FieldType.int)).before args0 about1 = true := code_word (m := ⟨5, 0⟩) (meth := k5m0) (c := k5c0) (by decide +kernel) rfl rfl rfl (by decide +kernel)
set_option maxRecDepth 65536 in
theorem w_c4 : (Jvm.Cond.code ({ cls := "com/example/floe/floe/Expression$Operation", name := "compares", desc := "()Z" } : Jvm.MethodName) prog_13_method_5_code (1 : Nat) (Option.some Jvm.ClassFile.FieldType.boolean)).before args0 about1 = true := code_word (m := ⟨6, 0⟩) (meth := k6m0) (c := k6c0) (by decide +kernel) rfl rfl rfl (by decide +kernel)
set_option maxRecDepth 65536 in
theorem w_c5 : (Jvm.Cond.code ({ cls := "com/example/floe/floe/OperationNegatePinLaw", name := "holds", desc := "(Lcom/example/floe/floe/Expression$Operation;ZJJ)Z" } : Jvm.MethodName) method_3_code (6 : Nat) (Option.some Jvm.ClassFile.FieldType.boolean)).before args0 about1 = true := code_word (m := ⟨1, 2⟩) (meth := k1m2) (c := k1c2) (by decide +kernel) rfl rfl rfl (by decide +kernel)
def codes1 : List Jvm.Cond := [Jvm.Cond.code x code maxLocals ret, Jvm.Cond.code ({ cls := "com/example/floe/floe/OperationNegatePinLaw", name := "pick", desc := "(I)Lcom/example/floe/floe/Expression$Operation;" } : Jvm.MethodName) method_2_code (2 : Nat) (Option.some (Jvm.ClassFile.FieldType.object "com/example/floe/floe/Expression$Operation")), Jvm.Cond.code ({ cls := "com/example/floe/floe/Expression$Operation", name := "negate", desc := "()Lcom/example/floe/floe/Expression$Operation;" } : Jvm.MethodName) prog_13_method_7_code (1 : Nat) (Option.some (Jvm.ClassFile.FieldType.object "com/example/floe/floe/Expression$Operation")), Jvm.Cond.code ({ cls := "java/lang/Enum", name := "ordinal", desc := "()I" } : Jvm.MethodName) jdk_37_method_2_code (1 : Nat) (Option.some Jvm.ClassFile.FieldType.int), Jvm.Cond.code ({ cls := "com/example/floe/floe/Expression$Operation", name := "compares", desc := "()Z" } : Jvm.MethodName) prog_13_method_5_code (1 : Nat) (Option.some Jvm.ClassFile.FieldType.boolean), Jvm.Cond.code ({ cls := "com/example/floe/floe/OperationNegatePinLaw", name := "holds", desc := "(Lcom/example/floe/floe/Expression$Operation;ZJJ)Z" } : Jvm.MethodName) method_3_code (6 : Nat) (Option.some Jvm.ClassFile.FieldType.boolean)]
set_option maxRecDepth 65536 in
theorem codes_eq : words1.filter isCode = codes1 := rfl
theorem w_codes : ∀ c ∈ words1.filter isCode, c.before args0 about1 = true := by
  rw [codes_eq]
  intro c hc
  simp only [codes1, List.mem_cons, List.not_mem_nil, or_false] at hc
  rcases hc with rfl | rfl | rfl | rfl | rfl | rfl
  · exact w_c0
  · exact w_c1
  · exact w_c2
  · exact w_c3
  · exact w_c4
  · exact w_c5
set_option maxRecDepth 65536 in
theorem w_t1 : (words1.take 24).all (fun c => isCode c || c.before args0 about1) = true := by decide +kernel
set_option maxRecDepth 65536 in
theorem w_t2 : ((words1.drop 24).take 24).all (fun c => isCode c || c.before args0 about1) = true := by decide +kernel
set_option maxRecDepth 65536 in
theorem w_t3 : ((words1.drop 24).drop 24).all (fun c => isCode c || c.before args0 about1) = true := by decide +kernel
theorem w_tables : (allAtoms (Jvm.Cond.code x code maxLocals ret :: tables_1)).before args0 about1 = true := by
  rw [allAtoms_all]
  show words1.all (fun c => c.before args0 about1) = true
  refine all_split ?_ w_codes
  rw [← List.take_append_drop 24 words1, List.all_append, w_t1, ← List.take_append_drop 24 (words1.drop 24), List.all_append, w_t2, w_t3]
  rfl
set_option maxRecDepth 65536 in
theorem w_case : (Jvm.Cond.and given_1 narrow_1).before args0 about1 = true := by decide +kernel
theorem w_applies : (headSpec (Jvm.Cond.code x code maxLocals ret :: tables_1) room_1).applies x e0.platform about1 = true :=
  (Spec.applies_iff w_frames).mpr ⟨w_running, w_runnable, w_alone, w_named, w_hears, w_ripe, w_room, w_tables⟩
theorem atStart : AtStart classFile x code maxLocals ret World_1 tables_1 room_1 Calls_1 rest_1 Pre_1 launch0 p0 e0 about1 theMethod args0 below0 :=
  ⟨lists_1, trivial, launch0.admits_env _ _ _, launch0.least_env, fairChoices_fair.cas, fairChoices_fair.clock, w_frames, w_args, w_heap, w_applies, trivial, trivial, w_case⟩
end start1
theorem witness_1 : WitnessClaimed_1 := ⟨start1.p0, start1.e0, start1.about1, start1.theMethod, start1.args0, start1.below0, start1.atStart⟩
end Jvm.Pilot.@@N@@
