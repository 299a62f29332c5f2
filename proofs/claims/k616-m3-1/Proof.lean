import JvmDerived
import JvmDerived.Pilot.@@N@@Statement
import JvmDerived.Pilot.@@N@@Code
set_option linter.unusedVariables false
set_option linter.unusedSimpArgs false
namespace Jvm.RoadKit
open Sem ClassFile Op Lib Jvm.Stand Jvm.Free Jvm.LawKit
section New
variable {p : Program} {l : Launch} {e : Env} {R : Room} {s : State} {m : MethodId} {args : Array Value} {below : List Frame} {meth : Method} {c : Code} {T : State} {locs : List Loc} {cells slots : Nat}
theorem retI (X : Stand p l e R s m args below meth c T locs cells slots) (hx : p.tables.exec = Jvm.exec) {pc : Nat} {Ls : Array Slot} {z : Int32} {rest : List Value} (hret : meth.sig.returnType = some .int) (hd : decode c.code pc = .ok (.ireturn, 1)) {fs : List Frame}
    (hl : ∀ (f : JFrame) (acts : List Action), f.method = m → f.locked = none → f.entered = [] → (doReturn e (T.setTop f) acts (some (.int z))).1 = T.setFrames fs) : Steps p.tables e below (T.setTop (mkF m pc Ls (.int z :: rest))) (T.setFrames fs) := by
  have hm' : T.vm.method? m = some meth := X.method'
  have hn : narrow .int (.int z) = .int z := rfl
  show Steps p.tables e below (T.setTop { method := m, pc := pc, locals := Ls, stack := _ :: rest, locked := none }) _
  jvm_step X.here [X.here.top, hx, hd, hm', hret, hn]
  first | (intro acts; rw [hl _ acts rfl rfl rfl]) | rw [hl _ _ rfl rfl rfl]
  exact Steps.refl _
end New
end Jvm.RoadKit
namespace Jvm.Pilot.@@N@@
open Jvm Jvm.ClassFile Sem Op Lib Jvm.Free Jvm.Stand Jvm.LawKit Jvm.RoadKit Bundle Jvm.Pilot.@@N@@.Jvm.D
def QT (n0 : Nat) (v : Option Value) (h : Heap) (L : List Loc) : Prop := v = some (.int 1) ∧ Fr n0 L
def QP (r : Option Value) (h0 : Heap) (n0 : Nat) (v : Option Value) (h : Heap) (L : List Loc) : Prop := v = r ∧ Fr n0 L ∧ h = h0
theorem own_fld {Z : State} {args : Array Value} {t : Term} {C n d : String} {a : Addr} {i : Int32} (ev : t.eval args Z none [] Z = some (.ref a)) (h : (Cond.eq (Term.field t C n d) (Term.int i)).value args Z none Z [] = some true) : Fld Z Z.heap a C n d (.int i) := by
  have e := fld_at (C := C) (n := n) (dd := d) ev
  refine Fld.start ?_
  obtain ⟨x, y, h1, h2, k1, k2⟩ := cmp_v (Or.inl h)
  have h3 : y = .int i := (Option.some.inj ((Term.int_eval i).symm.trans h2)).symm
  subst h3
  obtain ⟨z, rfl⟩ := k2
  have q : z = i := by simpa [Cond.value, h1, h2] using h
  rw [← e, h1, q]
theorem own_mod3 (x : Int32) : ((x &&& (2147483647 : Int32)) % (3 : Int32)) = (0 : Int32) ∨ ((x &&& (2147483647 : Int32)) % (3 : Int32)) = (1 : Int32) ∨ ((x &&& (2147483647 : Int32)) % (3 : Int32)) = (2 : Int32) := by
  have h := c_and x (2147483647 : Int32) (by decide)
  have h2 := (c_iremV (x &&& (2147483647 : Int32)) (3 : Int32)).1 h.1 (by decide)
  have e : (3 : Int32).toInt = 3 := by decide
  have e0 : (0 : Int32).toInt = 0 := by decide
  have e1 : (1 : Int32).toInt = 1 := by decide
  have e2 : (2 : Int32).toInt = 2 := by decide
  simp only [← Int32.toInt_inj, e0, e1, e2]
  omega
theorem tw_6 {a0 : Array Value} {Z : State} (hw : ∀ d ∈ tables_1, d.before a0 Z = true) : (Jvm.Cond.initialized "com/example/pathwise/pathwise/sparql/PropertyPath$Repetition").before a0 Z = true := hw _ (List.mem_of_getElem? (i := 6) rfl)
theorem tw_7 {a0 : Array Value} {Z : State} (hw : ∀ d ∈ tables_1, d.before a0 Z = true) : (Jvm.Cond.laysStatic "com/example/pathwise/pathwise/sparql/PropertyPath$Repetition" "ZERO_OR_MORE" "Lcom/example/pathwise/pathwise/sparql/PropertyPath$Repetition;").before a0 Z = true := hw _ (List.mem_of_getElem? (i := 7) rfl)
abbrev S_0 (Z : State) (h : Heap) (v : Value) : Prop := Sta Z h "com/example/pathwise/pathwise/sparql/PropertyPath$Repetition" "ZERO_OR_MORE" "Lcom/example/pathwise/pathwise/sparql/PropertyPath$Repetition;" v
abbrev E_0 (Z : State) (h : Heap) (a : Addr) : Prop := Exa Z h a "com/example/pathwise/pathwise/sparql/PropertyPath$Repetition"
theorem tw_17 {a0 : Array Value} {Z : State} (hw : ∀ d ∈ tables_1, d.before a0 Z = true) : (Jvm.Cond.laysStatic "com/example/pathwise/pathwise/sparql/PropertyPath$Repetition" "ONE_OR_MORE" "Lcom/example/pathwise/pathwise/sparql/PropertyPath$Repetition;").before a0 Z = true := hw _ (List.mem_of_getElem? (i := 17) rfl)
abbrev S_1 (Z : State) (h : Heap) (v : Value) : Prop := Sta Z h "com/example/pathwise/pathwise/sparql/PropertyPath$Repetition" "ONE_OR_MORE" "Lcom/example/pathwise/pathwise/sparql/PropertyPath$Repetition;" v
theorem tw_30 {a0 : Array Value} {Z : State} (hw : ∀ d ∈ tables_1, d.before a0 Z = true) : (Jvm.Cond.laysStatic "com/example/pathwise/pathwise/sparql/PropertyPath$Repetition" "ZERO_OR_ONE" "Lcom/example/pathwise/pathwise/sparql/PropertyPath$Repetition;").before a0 Z = true := hw _ (List.mem_of_getElem? (i := 30) rfl)
abbrev S_2 (Z : State) (h : Heap) (v : Value) : Prop := Sta Z h "com/example/pathwise/pathwise/sparql/PropertyPath$Repetition" "ZERO_OR_ONE" "Lcom/example/pathwise/pathwise/sparql/PropertyPath$Repetition;" v
abbrev F_0 (Z : State) (h : Heap) (a : Addr) (v : Value) : Prop := Fld Z h a "java/lang/Enum" "ordinal" "I" v
theorem tw_0 {a0 : Array Value} {Z : State} (hw : ∀ d ∈ tables_1, d.before a0 Z = true) : (Jvm.Cond.constant "com/example/pathwise/pathwise/sparql/RepetitionZeroLengthPinLaw" (19 : Nat) (2147483647 : Int32)).before a0 Z = true := hw _ (List.mem_of_getElem? (i := 0) rfl)
theorem tw_1 {a0 : Array Value} {Z : State} (hw : ∀ d ∈ tables_1, d.before a0 Z = true) : (Jvm.Cond.methodLink "com/example/pathwise/pathwise/sparql/RepetitionZeroLengthPinLaw" (20 : Nat) ({ cls := "com/example/pathwise/pathwise/sparql/RepetitionZeroLengthPinLaw", name := "pick", desc := "(I)Lcom/example/pathwise/pathwise/sparql/PropertyPath$Repetition;" } : Jvm.MethodName)).before a0 Z = true := hw _ (List.mem_of_getElem? (i := 1) rfl)
theorem tw_4 {a0 : Array Value} {Z : State} (hw : ∀ d ∈ tables_1, d.before a0 Z = true) : (Jvm.Cond.code ({ cls := "com/example/pathwise/pathwise/sparql/RepetitionZeroLengthPinLaw", name := "pick", desc := "(I)Lcom/example/pathwise/pathwise/sparql/PropertyPath$Repetition;" } : Jvm.MethodName) method_2_code (1 : Nat) (Option.some (Jvm.ClassFile.FieldType.object "com/example/pathwise/pathwise/sparql/PropertyPath$Repetition"))).before a0 Z = true := hw _ (List.mem_of_getElem? (i := 4) rfl)
theorem d1_0 : decode method_2_code 0 = .ok (.iload_n 0, 1) := by decide +kernel
theorem d1_1 : decode method_2_code 1 = .ok (.ifCond .ne 7, 3) := by decide +kernel
theorem d1_4 : decode method_2_code 4 = .ok (.getstatic 7, 3) := by decide +kernel
theorem tw_5 {a0 : Array Value} {Z : State} (hw : ∀ d ∈ tables_1, d.before a0 Z = true) : (Jvm.Cond.fieldLink "com/example/pathwise/pathwise/sparql/RepetitionZeroLengthPinLaw" (7 : Nat) "com/example/pathwise/pathwise/sparql/PropertyPath$Repetition" "ZERO_OR_MORE" "Lcom/example/pathwise/pathwise/sparql/PropertyPath$Repetition;").before a0 Z = true := hw _ (List.mem_of_getElem? (i := 5) rfl)
theorem d1_7 : decode method_2_code 7 = .ok (.areturn, 1) := by decide +kernel
abbrev R_0_0_0_0 : Room := { frames := 0, cells := 0, slots := 0, locals := 0 }
abbrev M_0 : MethodName := ⟨"com/example/pathwise/pathwise/sparql/RepetitionZeroLengthPinLaw", "pick", "(I)Lcom/example/pathwise/pathwise/sparql/PropertyPath$Repetition;"⟩
theorem ef1_I (m : MethodId) (x0 : Int32) : entryFrame m #[(.int x0)] 1 = mkF m 0 #[.val (.int x0)] [] := by first | (simp [entryFrame, mkF, argsToLocals, Value.category]; done) | rfl
theorem pn_com_example_pathwise_pathwise_sparql_RepetitionZeroLengthPinLaw : plainName "com/example/pathwise/pathwise/sparql/RepetitionZeroLengthPinLaw" = true := by first | (simp [plainName, overriddenIn]; done) | decide +kernel
set_option maxRecDepth 65536 in
set_option maxHeartbeats 40000000 in
theorem rm1_11 (l : Launch) (Z : State) (a0 : Array Value) (hw : ∀ d ∈ tables_1, d.before a0 Z = true) (ws : List Jvm.Cond) (a_ZERO_OR_MORE : Addr) (h0 : Heap) (n0 : Nat) (Z0 : n0 ≤ h0.size) (f1 : S_0 Z h0 (.ref a_ZERO_OR_MORE)) :
    MetFree l M_0 (head1 (Jvm.Cond.code M_0 method_2_code 1 (some (.object "com/example/pathwise/pathwise/sparql/PropertyPath$Repetition")) :: ws) R_0_0_0_0) (fun a U => a = #[(.int 0)] ∧ Z.Warmed39 U.vm ∧ U.heap = h0) (fun _ _ _ _ _ => True) (fun _ U o U' => ∃ v L, o = .returned v ∧ QP (some (.ref a_ZERO_OR_MORE)) h0 n0 v U'.heap L ∧ FrameEnd U o U' L R_0_0_0_0.cells R_0_0_0_0.slots) := by
  refine MetFree.of_bodySF (plainFor_of_name pn_com_example_pathwise_pathwise_sparql_RepetitionZeroLengthPinLaw) hisR ?_
  intro p e s m args below meth c s₁ Bd hml0 hP hK
  obtain ⟨rfl, hZ, hh⟩ := hP
  have hx := Bd.exec
  have hby := Bd.bytes
  have hml : c.maxLocals = 1 := hml0
  have hown : s.vm.findClass "com/example/pathwise/pathwise/sparql/RepetitionZeroLengthPinLaw" = some m.cls := findClass_of_methodNamed Bd.named
  have hnm := (name_of_methodNamed Bd.named Bd.method).1
  have X0 : Stand p l e R_0_0_0_0 s m #[(.int 0)] below meth c s₁ [] 0 0 := Stand.of_body Bd
  have e0 : s₁.heap = h0 := by rw [← hh, Bd.state]; rfl
  have N0 := Fr.nil n0
  obtain ⟨T1, X1, e1, st1⟩ := getS2 X0 hx hZ hown (host := "") (Or.inl (tw_5 hw)) Via.refl e0 f1 (g := (mkF m 4 #[.val (.int 0)] [])) rfl (hb hby d1_4)
  obtain ⟨fs, hr, hrun, hended, hW, hsame⟩ := X1.leave (v := (some (.ref a_ZERO_OR_MORE))) (fun h => by rw [Bd.returns] at h; cases h)
  refine ⟨_, _, castTop (ef1_I m (0 : Int32)) ?_, hrun, hended, _, _, rfl, ?_, ⟨_, rfl⟩, hW, hsame.mono (by decide) (by decide)⟩
  · show Steps p.tables e below (s₁.setTop (mkF m 0 #[.val (.int 0)] [])) _
    refine XS.iloadN X0.here hx rfl (hb hby d1_0) rfl ?_
    refine XS.ifNo X0.here hx rfl (hb hby d1_1) rfl (by decide) ?_
    show Steps p.tables e below (s₁.setTop (mkF m 4 #[.val (.int 0)] [])) _
    refine st1 _ ?_
    show Steps p.tables e below (T1.setTop (mkF m 7 #[.val (.int 0)] [(.ref a_ZERO_OR_MORE)])) _
    jvm_step X1.here [X1.here.top, hx, (hb hby d1_7), X1.method', Bd.returns, Value.isRef, FieldType.isReference]
    first | (intro acts; rw [hr _ acts rfl rfl rfl]) | rw [hr _ _ rfl rfl rfl]
    exact Steps.refl _
  · show QP (some (.ref a_ZERO_OR_MORE)) h0 n0 _ T1.heap _
    rw [e1]
    exact ⟨rfl, N0, rfl⟩
theorem tw_3 {a0 : Array Value} {Z : State} (hw : ∀ d ∈ tables_1, d.before a0 Z = true) : (Jvm.Cond.initialized "com/example/pathwise/pathwise/sparql/RepetitionZeroLengthPinLaw").before a0 Z = true := hw _ (List.mem_of_getElem? (i := 3) rfl)
theorem pd_0 : parseMethodDescriptor "(I)Lcom/example/pathwise/pathwise/sparql/PropertyPath$Repetition;" = some ⟨[.int], some (.object "com/example/pathwise/pathwise/sparql/PropertyPath$Repetition")⟩ := by decide +kernel
theorem tw_2 {a0 : Array Value} {Z : State} (hw : ∀ d ∈ tables_1, d.before a0 Z = true) : (Jvm.Cond.static ({ cls := "com/example/pathwise/pathwise/sparql/RepetitionZeroLengthPinLaw", name := "pick", desc := "(I)Lcom/example/pathwise/pathwise/sparql/PropertyPath$Repetition;" } : Jvm.MethodName)).before a0 Z = true := hw _ (List.mem_of_getElem? (i := 2) rfl)
theorem tw_8 {a0 : Array Value} {Z : State} (hw : ∀ d ∈ tables_1, d.before a0 Z = true) : (Jvm.Cond.methodLink "com/example/pathwise/pathwise/sparql/RepetitionZeroLengthPinLaw" (26 : Nat) ({ cls := "com/example/pathwise/pathwise/sparql/RepetitionZeroLengthPinLaw", name := "expected", desc := "(I)Z" } : Jvm.MethodName)).before a0 Z = true := hw _ (List.mem_of_getElem? (i := 8) rfl)
theorem tw_10 {a0 : Array Value} {Z : State} (hw : ∀ d ∈ tables_1, d.before a0 Z = true) : (Jvm.Cond.code ({ cls := "com/example/pathwise/pathwise/sparql/RepetitionZeroLengthPinLaw", name := "expected", desc := "(I)Z" } : Jvm.MethodName) method_3_code (1 : Nat) (Option.some Jvm.ClassFile.FieldType.boolean)).before a0 Z = true := hw _ (List.mem_of_getElem? (i := 10) rfl)
theorem d2_0 : decode method_3_code 0 = .ok (.iload_n 0, 1) := by decide +kernel
theorem d2_1 : decode method_3_code 1 = .ok (.ifCond .eq 8, 3) := by decide +kernel
theorem d2_9 : decode method_3_code 9 = .ok (.iconst 1, 1) := by decide +kernel
theorem d2_10 : decode method_3_code 10 = .ok (.goto 4, 3) := by decide +kernel
theorem d2_14 : decode method_3_code 14 = .ok (.ireturn, 1) := by decide +kernel
abbrev M_1 : MethodName := ⟨"com/example/pathwise/pathwise/sparql/RepetitionZeroLengthPinLaw", "expected", "(I)Z"⟩
theorem ef2_I (m : MethodId) (x0 : Int32) : entryFrame m #[(.int x0)] 1 = mkF m 0 #[.val (.int x0)] [] := by first | (simp [entryFrame, mkF, argsToLocals, Value.category]; done) | rfl
set_option maxRecDepth 65536 in
set_option maxHeartbeats 40000000 in
theorem rm2_12 (l : Launch) (Z : State) (a0 : Array Value) (hw : ∀ d ∈ tables_1, d.before a0 Z = true) (ws : List Jvm.Cond)  (h0 : Heap) (n0 : Nat) (Z0 : n0 ≤ h0.size) :
    MetFree l M_1 (head1 (Jvm.Cond.code M_1 method_3_code 1 (some .boolean) :: ws) R_0_0_0_0) (fun a U => a = #[(.int 0)] ∧ Z.Warmed39 U.vm ∧ U.heap = h0) (fun _ _ _ _ _ => True) (fun _ U o U' => ∃ v L, o = .returned v ∧ QP (some (.int 1)) h0 n0 v U'.heap L ∧ FrameEnd U o U' L R_0_0_0_0.cells R_0_0_0_0.slots) := by
  refine MetFree.of_bodySF (plainFor_of_name pn_com_example_pathwise_pathwise_sparql_RepetitionZeroLengthPinLaw) hisR ?_
  intro p e s m args below meth c s₁ Bd hml0 hP hK
  obtain ⟨rfl, hZ, hh⟩ := hP
  have hx := Bd.exec
  have hby := Bd.bytes
  have hml : c.maxLocals = 1 := hml0
  have hown : s.vm.findClass "com/example/pathwise/pathwise/sparql/RepetitionZeroLengthPinLaw" = some m.cls := findClass_of_methodNamed Bd.named
  have hnm := (name_of_methodNamed Bd.named Bd.method).1
  have X0 : Stand p l e R_0_0_0_0 s m #[(.int 0)] below meth c s₁ [] 0 0 := Stand.of_body Bd
  have e0 : s₁.heap = h0 := by rw [← hh, Bd.state]; rfl
  have N0 := Fr.nil n0
  obtain ⟨fs, hr, hrun, hended, hW, hsame⟩ := X0.leave (v := (some (.int 1))) (fun h => by rw [Bd.returns] at h; cases h)
  refine ⟨_, _, castTop (ef2_I m (0 : Int32)) ?_, hrun, hended, _, _, rfl, ?_, ⟨_, rfl⟩, hW, hsame.mono (by decide) (by decide)⟩
  · show Steps p.tables e below (s₁.setTop (mkF m 0 #[.val (.int 0)] [])) _
    refine XS.iloadN X0.here hx rfl (hb hby d2_0) rfl ?_
    refine XS.ifYes X0.here hx rfl (pc0 := 1) (pc' := 9) rfl (hb hby d2_1) rfl (by decide) (by decide) (by decide) ?_
    refine XS.iconst X0.here hx rfl (hb hby d2_9) ?_
    refine XS.goto X0.here hx rfl (pc0 := 10) (pc' := 14) rfl (hb hby d2_10) (by decide) (by decide) ?_
    show Steps p.tables e below (s₁.setTop (mkF m 14 #[.val (.int 0)] [(.int 1)])) _
    exact retN X0 hx (t := .boolean) Bd.returns (by simp) (hb hby d2_14) hr
  · show QP (some (.int 1)) h0 n0 _ s₁.heap _
    rw [e0]
    exact ⟨rfl, N0, rfl⟩
theorem pd_1 : parseMethodDescriptor "(I)Z" = some ⟨[.int], some .boolean⟩ := by decide +kernel
theorem tw_9 {a0 : Array Value} {Z : State} (hw : ∀ d ∈ tables_1, d.before a0 Z = true) : (Jvm.Cond.static ({ cls := "com/example/pathwise/pathwise/sparql/RepetitionZeroLengthPinLaw", name := "expected", desc := "(I)Z" } : Jvm.MethodName)).before a0 Z = true := hw _ (List.mem_of_getElem? (i := 9) rfl)
theorem tw_11 {a0 : Array Value} {Z : State} (hw : ∀ d ∈ tables_1, d.before a0 Z = true) : (Jvm.Cond.methodLink "com/example/pathwise/pathwise/sparql/RepetitionZeroLengthPinLaw" (30 : Nat) ({ cls := "com/example/pathwise/pathwise/sparql/PropertyPath$Repetition", name := "zeroLength", desc := "()Z" } : Jvm.MethodName)).before a0 Z = true := hw _ (List.mem_of_getElem? (i := 11) rfl)
theorem tw_15 {a0 : Array Value} {Z : State} (hw : ∀ d ∈ tables_1, d.before a0 Z = true) : (Jvm.Cond.code ({ cls := "com/example/pathwise/pathwise/sparql/PropertyPath$Repetition", name := "zeroLength", desc := "()Z" } : Jvm.MethodName) prog_118_method_4_code (1 : Nat) (Option.some Jvm.ClassFile.FieldType.boolean)).before a0 Z = true := hw _ (List.mem_of_getElem? (i := 15) rfl)
theorem d3_0 : decode prog_118_method_4_code 0 = .ok (.aload_n 0, 1) := by decide +kernel
theorem d3_1 : decode prog_118_method_4_code 1 = .ok (.getstatic 7, 3) := by decide +kernel
theorem tw_16 {a0 : Array Value} {Z : State} (hw : ∀ d ∈ tables_1, d.before a0 Z = true) : (Jvm.Cond.fieldLink "com/example/pathwise/pathwise/sparql/PropertyPath$Repetition" (7 : Nat) "com/example/pathwise/pathwise/sparql/PropertyPath$Repetition" "ONE_OR_MORE" "Lcom/example/pathwise/pathwise/sparql/PropertyPath$Repetition;").before a0 Z = true := hw _ (List.mem_of_getElem? (i := 16) rfl)
theorem d3_4 : decode prog_118_method_4_code 4 = .ok (.if_acmp .eq 7, 3) := by decide +kernel
theorem d3_7 : decode prog_118_method_4_code 7 = .ok (.iconst 1, 1) := by decide +kernel
theorem d3_8 : decode prog_118_method_4_code 8 = .ok (.goto 4, 3) := by decide +kernel
theorem d3_12 : decode prog_118_method_4_code 12 = .ok (.ireturn, 1) := by decide +kernel
abbrev M_2 : MethodName := ⟨"com/example/pathwise/pathwise/sparql/PropertyPath$Repetition", "zeroLength", "()Z"⟩
theorem ef3_R (m : MethodId) (x0 : Addr) : entryFrame m #[(.ref x0)] 1 = mkF m 0 #[.val (.ref x0)] [] := by first | (simp [entryFrame, mkF, argsToLocals, Value.category]; done) | rfl
theorem pn_com_example_pathwise_pathwise_sparql_PropertyPath_Repetition : plainName "com/example/pathwise/pathwise/sparql/PropertyPath$Repetition" = true := by first | (simp [plainName, overriddenIn]; done) | decide +kernel
set_option maxRecDepth 65536 in
set_option maxHeartbeats 40000000 in
theorem rm3_13 (l : Launch) (Z : State) (a0 : Array Value) (hw : ∀ d ∈ tables_1, d.before a0 Z = true) (ws : List Jvm.Cond) (a_ZERO_OR_MORE : Addr) (a_ONE_OR_MORE : Addr) (h0 : Heap) (n0 : Nat) (Z0 : n0 ≤ h0.size) (f1 : S_1 Z h0 (.ref a_ONE_OR_MORE)) (f2 : a_ZERO_OR_MORE ≠ a_ONE_OR_MORE) :
    MetFree l M_2 (head1 (Jvm.Cond.code M_2 prog_118_method_4_code 1 (some .boolean) :: ws) R_0_0_0_0) (fun a U => a = #[(.ref a_ZERO_OR_MORE)] ∧ Z.Warmed39 U.vm ∧ U.heap = h0) (fun _ _ _ _ _ => True) (fun _ U o U' => ∃ v L, o = .returned v ∧ QP (some (.int 1)) h0 n0 v U'.heap L ∧ FrameEnd U o U' L R_0_0_0_0.cells R_0_0_0_0.slots) := by
  refine MetFree.of_bodySF (plainFor_of_name pn_com_example_pathwise_pathwise_sparql_PropertyPath_Repetition) hisR ?_
  intro p e s m args below meth c s₁ Bd hml0 hP hK
  obtain ⟨rfl, hZ, hh⟩ := hP
  have hx := Bd.exec
  have hby := Bd.bytes
  have hml : c.maxLocals = 1 := hml0
  have hown : s.vm.findClass "com/example/pathwise/pathwise/sparql/PropertyPath$Repetition" = some m.cls := findClass_of_methodNamed Bd.named
  have hnm := (name_of_methodNamed Bd.named Bd.method).1
  have X0 : Stand p l e R_0_0_0_0 s m #[(.ref a_ZERO_OR_MORE)] below meth c s₁ [] 0 0 := Stand.of_body Bd
  have e0 : s₁.heap = h0 := by rw [← hh, Bd.state]; rfl
  have N0 := Fr.nil n0
  obtain ⟨T1, X1, e1, st1⟩ := getS2 X0 hx hZ hown (host := "") (Or.inl (tw_16 hw)) Via.refl e0 f1 (g := (mkF m 1 #[.val (.ref a_ZERO_OR_MORE)] [(.ref a_ZERO_OR_MORE)])) rfl (hb hby d3_1)
  obtain ⟨fs, hr, hrun, hended, hW, hsame⟩ := X1.leave (v := (some (.int 1))) (fun h => by rw [Bd.returns] at h; cases h)
  refine ⟨_, _, castTop (ef3_R m a_ZERO_OR_MORE) ?_, hrun, hended, _, _, rfl, ?_, ⟨_, rfl⟩, hW, hsame.mono (by decide) (by decide)⟩
  · show Steps p.tables e below (s₁.setTop (mkF m 0 #[.val (.ref a_ZERO_OR_MORE)] [])) _
    refine XS.aloadN X0.here hx rfl (hb hby d3_0) rfl rfl ?_
    show Steps p.tables e below (s₁.setTop (mkF m 1 #[.val (.ref a_ZERO_OR_MORE)] [(.ref a_ZERO_OR_MORE)])) _
    refine st1 _ ?_
    show Steps p.tables e below (T1.setTop (mkF m 4 #[.val (.ref a_ZERO_OR_MORE)] [(.ref a_ONE_OR_MORE), (.ref a_ZERO_OR_MORE)])) _
    refine Jvm.RoadKit.acmp (g := (mkF m 4 #[.val (.ref a_ZERO_OR_MORE)] [(.ref a_ONE_OR_MORE), (.ref a_ZERO_OR_MORE)])) X1 hx rfl rfl rfl (pc0 := 4) (pc' := 7) (same := false) rfl (hb hby d3_4) rfl (decide_eq_false fun q => f2 (Value.ref.inj q)) (by decide) (by decide) ?_
    refine XS.iconst X1.here hx rfl (hb hby d3_7) ?_
    refine XS.goto X1.here hx rfl (pc0 := 8) (pc' := 12) rfl (hb hby d3_8) (by decide) (by decide) ?_
    show Steps p.tables e below (T1.setTop (mkF m 12 #[.val (.ref a_ZERO_OR_MORE)] [(.int 1)])) _
    exact retN X1 hx (t := .boolean) Bd.returns (by simp) (hb hby d3_12) hr
  · show QP (some (.int 1)) h0 n0 _ T1.heap _
    rw [e1]
    exact ⟨rfl, N0, rfl⟩
theorem pd_2 : parseMethodDescriptor "()Z" = some ⟨[], some .boolean⟩ := by decide +kernel
theorem tw_14 {a0 : Array Value} {Z : State} (hw : ∀ d ∈ tables_1, d.before a0 Z = true) : (Jvm.Cond.selects "com/example/pathwise/pathwise/sparql/PropertyPath$Repetition" ({ cls := "com/example/pathwise/pathwise/sparql/PropertyPath$Repetition", name := "zeroLength", desc := "()Z" } : Jvm.MethodName) ({ cls := "com/example/pathwise/pathwise/sparql/PropertyPath$Repetition", name := "zeroLength", desc := "()Z" } : Jvm.MethodName)).before a0 Z = true := hw _ (List.mem_of_getElem? (i := 14) rfl)
theorem tw_12 {a0 : Array Value} {Z : State} (hw : ∀ d ∈ tables_1, d.before a0 Z = true) : (Jvm.Cond.declares ({ cls := "com/example/pathwise/pathwise/sparql/PropertyPath$Repetition", name := "zeroLength", desc := "()Z" } : Jvm.MethodName)).before a0 Z = true := hw _ (List.mem_of_getElem? (i := 12) rfl)
theorem tw_13 {a0 : Array Value} {Z : State} (hw : ∀ d ∈ tables_1, d.before a0 Z = true) : (Jvm.Cond.instanceMethod ({ cls := "com/example/pathwise/pathwise/sparql/PropertyPath$Repetition", name := "zeroLength", desc := "()Z" } : Jvm.MethodName)).before a0 Z = true := hw _ (List.mem_of_getElem? (i := 13) rfl)
theorem tw_18 {a0 : Array Value} {Z : State} (hw : ∀ d ∈ tables_1, d.before a0 Z = true) : (Jvm.Cond.methodLink "com/example/pathwise/pathwise/sparql/RepetitionZeroLengthPinLaw" (34 : Nat) ({ cls := "com/example/pathwise/pathwise/sparql/PropertyPath$Repetition", name := "around", desc := "(Lcom/example/pathwise/pathwise/sparql/PropertyPath$Repetition;)Lcom/example/pathwise/pathwise/sparql/PropertyPath$Repetition;" } : Jvm.MethodName)).before a0 Z = true := hw _ (List.mem_of_getElem? (i := 18) rfl)
theorem tw_22 {a0 : Array Value} {Z : State} (hw : ∀ d ∈ tables_1, d.before a0 Z = true) : (Jvm.Cond.code ({ cls := "com/example/pathwise/pathwise/sparql/PropertyPath$Repetition", name := "around", desc := "(Lcom/example/pathwise/pathwise/sparql/PropertyPath$Repetition;)Lcom/example/pathwise/pathwise/sparql/PropertyPath$Repetition;" } : Jvm.MethodName) prog_118_method_6_code (3 : Nat) (Option.some (Jvm.ClassFile.FieldType.object "com/example/pathwise/pathwise/sparql/PropertyPath$Repetition"))).before a0 Z = true := hw _ (List.mem_of_getElem? (i := 22) rfl)
theorem d4_0 : decode prog_118_method_6_code 0 = .ok (.aload_n 0, 1) := by decide +kernel
theorem d4_1 : decode prog_118_method_6_code 1 = .ok (.invokevirtual 32, 3) := by decide +kernel
theorem tw_23 {a0 : Array Value} {Z : State} (hw : ∀ d ∈ tables_1, d.before a0 Z = true) : (Jvm.Cond.methodLink "com/example/pathwise/pathwise/sparql/PropertyPath$Repetition" (32 : Nat) ({ cls := "com/example/pathwise/pathwise/sparql/PropertyPath$Repetition", name := "zeroLength", desc := "()Z" } : Jvm.MethodName)).before a0 Z = true := hw _ (List.mem_of_getElem? (i := 23) rfl)
theorem d4_4 : decode prog_118_method_6_code 4 = .ok (.ifCond .ne 10, 3) := by decide +kernel
theorem d4_14 : decode prog_118_method_6_code 14 = .ok (.iconst 1, 1) := by decide +kernel
theorem d4_15 : decode prog_118_method_6_code 15 = .ok (.goto 4, 3) := by decide +kernel
theorem d4_19 : decode prog_118_method_6_code 19 = .ok (.istore_n 2, 1) := by decide +kernel
theorem d4_20 : decode prog_118_method_6_code 20 = .ok (.aload_n 0, 1) := by decide +kernel
theorem d4_21 : decode prog_118_method_6_code 21 = .ok (.invokevirtual 36, 3) := by decide +kernel
theorem tw_24 {a0 : Array Value} {Z : State} (hw : ∀ d ∈ tables_1, d.before a0 Z = true) : (Jvm.Cond.methodLink "com/example/pathwise/pathwise/sparql/PropertyPath$Repetition" (36 : Nat) ({ cls := "com/example/pathwise/pathwise/sparql/PropertyPath$Repetition", name := "unbounded", desc := "()Z" } : Jvm.MethodName)).before a0 Z = true := hw _ (List.mem_of_getElem? (i := 24) rfl)
theorem tw_28 {a0 : Array Value} {Z : State} (hw : ∀ d ∈ tables_1, d.before a0 Z = true) : (Jvm.Cond.code ({ cls := "com/example/pathwise/pathwise/sparql/PropertyPath$Repetition", name := "unbounded", desc := "()Z" } : Jvm.MethodName) prog_118_method_5_code (1 : Nat) (Option.some Jvm.ClassFile.FieldType.boolean)).before a0 Z = true := hw _ (List.mem_of_getElem? (i := 28) rfl)
theorem d5_0 : decode prog_118_method_5_code 0 = .ok (.aload_n 0, 1) := by decide +kernel
theorem d5_1 : decode prog_118_method_5_code 1 = .ok (.getstatic 10, 3) := by decide +kernel
theorem tw_29 {a0 : Array Value} {Z : State} (hw : ∀ d ∈ tables_1, d.before a0 Z = true) : (Jvm.Cond.fieldLink "com/example/pathwise/pathwise/sparql/PropertyPath$Repetition" (10 : Nat) "com/example/pathwise/pathwise/sparql/PropertyPath$Repetition" "ZERO_OR_ONE" "Lcom/example/pathwise/pathwise/sparql/PropertyPath$Repetition;").before a0 Z = true := hw _ (List.mem_of_getElem? (i := 29) rfl)
theorem d5_4 : decode prog_118_method_5_code 4 = .ok (.if_acmp .eq 7, 3) := by decide +kernel
theorem d5_7 : decode prog_118_method_5_code 7 = .ok (.iconst 1, 1) := by decide +kernel
theorem d5_8 : decode prog_118_method_5_code 8 = .ok (.goto 4, 3) := by decide +kernel
theorem d5_12 : decode prog_118_method_5_code 12 = .ok (.ireturn, 1) := by decide +kernel
abbrev M_3 : MethodName := ⟨"com/example/pathwise/pathwise/sparql/PropertyPath$Repetition", "unbounded", "()Z"⟩
theorem ef5_R (m : MethodId) (x0 : Addr) : entryFrame m #[(.ref x0)] 1 = mkF m 0 #[.val (.ref x0)] [] := by first | (simp [entryFrame, mkF, argsToLocals, Value.category]; done) | rfl
set_option maxRecDepth 65536 in
set_option maxHeartbeats 40000000 in
theorem rm5_14 (l : Launch) (Z : State) (a0 : Array Value) (hw : ∀ d ∈ tables_1, d.before a0 Z = true) (ws : List Jvm.Cond) (a_ZERO_OR_MORE : Addr) (a_ZERO_OR_ONE : Addr) (h0 : Heap) (n0 : Nat) (Z0 : n0 ≤ h0.size) (f1 : S_2 Z h0 (.ref a_ZERO_OR_ONE)) (f2 : a_ZERO_OR_MORE ≠ a_ZERO_OR_ONE) :
    MetFree l M_3 (head1 (Jvm.Cond.code M_3 prog_118_method_5_code 1 (some .boolean) :: ws) R_0_0_0_0) (fun a U => a = #[(.ref a_ZERO_OR_MORE)] ∧ Z.Warmed39 U.vm ∧ U.heap = h0) (fun _ _ _ _ _ => True) (fun _ U o U' => ∃ v L, o = .returned v ∧ QP (some (.int 1)) h0 n0 v U'.heap L ∧ FrameEnd U o U' L R_0_0_0_0.cells R_0_0_0_0.slots) := by
  refine MetFree.of_bodySF (plainFor_of_name pn_com_example_pathwise_pathwise_sparql_PropertyPath_Repetition) hisR ?_
  intro p e s m args below meth c s₁ Bd hml0 hP hK
  obtain ⟨rfl, hZ, hh⟩ := hP
  have hx := Bd.exec
  have hby := Bd.bytes
  have hml : c.maxLocals = 1 := hml0
  have hown : s.vm.findClass "com/example/pathwise/pathwise/sparql/PropertyPath$Repetition" = some m.cls := findClass_of_methodNamed Bd.named
  have hnm := (name_of_methodNamed Bd.named Bd.method).1
  have X0 : Stand p l e R_0_0_0_0 s m #[(.ref a_ZERO_OR_MORE)] below meth c s₁ [] 0 0 := Stand.of_body Bd
  have e0 : s₁.heap = h0 := by rw [← hh, Bd.state]; rfl
  have N0 := Fr.nil n0
  obtain ⟨T1, X1, e1, st1⟩ := getS2 X0 hx hZ hown (host := "") (Or.inl (tw_29 hw)) Via.refl e0 f1 (g := (mkF m 1 #[.val (.ref a_ZERO_OR_MORE)] [(.ref a_ZERO_OR_MORE)])) rfl (hb hby d5_1)
  obtain ⟨fs, hr, hrun, hended, hW, hsame⟩ := X1.leave (v := (some (.int 1))) (fun h => by rw [Bd.returns] at h; cases h)
  refine ⟨_, _, castTop (ef5_R m a_ZERO_OR_MORE) ?_, hrun, hended, _, _, rfl, ?_, ⟨_, rfl⟩, hW, hsame.mono (by decide) (by decide)⟩
  · show Steps p.tables e below (s₁.setTop (mkF m 0 #[.val (.ref a_ZERO_OR_MORE)] [])) _
    refine XS.aloadN X0.here hx rfl (hb hby d5_0) rfl rfl ?_
    show Steps p.tables e below (s₁.setTop (mkF m 1 #[.val (.ref a_ZERO_OR_MORE)] [(.ref a_ZERO_OR_MORE)])) _
    refine st1 _ ?_
    show Steps p.tables e below (T1.setTop (mkF m 4 #[.val (.ref a_ZERO_OR_MORE)] [(.ref a_ZERO_OR_ONE), (.ref a_ZERO_OR_MORE)])) _
    refine Jvm.RoadKit.acmp (g := (mkF m 4 #[.val (.ref a_ZERO_OR_MORE)] [(.ref a_ZERO_OR_ONE), (.ref a_ZERO_OR_MORE)])) X1 hx rfl rfl rfl (pc0 := 4) (pc' := 7) (same := false) rfl (hb hby d5_4) rfl (decide_eq_false fun q => f2 (Value.ref.inj q)) (by decide) (by decide) ?_
    refine XS.iconst X1.here hx rfl (hb hby d5_7) ?_
    refine XS.goto X1.here hx rfl (pc0 := 8) (pc' := 12) rfl (hb hby d5_8) (by decide) (by decide) ?_
    show Steps p.tables e below (T1.setTop (mkF m 12 #[.val (.ref a_ZERO_OR_MORE)] [(.int 1)])) _
    exact retN X1 hx (t := .boolean) Bd.returns (by simp) (hb hby d5_12) hr
  · show QP (some (.int 1)) h0 n0 _ T1.heap _
    rw [e1]
    exact ⟨rfl, N0, rfl⟩
theorem tw_27 {a0 : Array Value} {Z : State} (hw : ∀ d ∈ tables_1, d.before a0 Z = true) : (Jvm.Cond.selects "com/example/pathwise/pathwise/sparql/PropertyPath$Repetition" ({ cls := "com/example/pathwise/pathwise/sparql/PropertyPath$Repetition", name := "unbounded", desc := "()Z" } : Jvm.MethodName) ({ cls := "com/example/pathwise/pathwise/sparql/PropertyPath$Repetition", name := "unbounded", desc := "()Z" } : Jvm.MethodName)).before a0 Z = true := hw _ (List.mem_of_getElem? (i := 27) rfl)
theorem tw_25 {a0 : Array Value} {Z : State} (hw : ∀ d ∈ tables_1, d.before a0 Z = true) : (Jvm.Cond.declares ({ cls := "com/example/pathwise/pathwise/sparql/PropertyPath$Repetition", name := "unbounded", desc := "()Z" } : Jvm.MethodName)).before a0 Z = true := hw _ (List.mem_of_getElem? (i := 25) rfl)
theorem tw_26 {a0 : Array Value} {Z : State} (hw : ∀ d ∈ tables_1, d.before a0 Z = true) : (Jvm.Cond.instanceMethod ({ cls := "com/example/pathwise/pathwise/sparql/PropertyPath$Repetition", name := "unbounded", desc := "()Z" } : Jvm.MethodName)).before a0 Z = true := hw _ (List.mem_of_getElem? (i := 26) rfl)
theorem d4_24 : decode prog_118_method_6_code 24 = .ok (.ifCond .ne 10, 3) := by decide +kernel
theorem d4_34 : decode prog_118_method_6_code 34 = .ok (.iload_n 2, 1) := by decide +kernel
theorem d4_35 : decode prog_118_method_6_code 35 = .ok (.ifCond .eq 9, 3) := by decide +kernel
theorem d4_38 : decode prog_118_method_6_code 38 = .ok (.getstatic 3, 3) := by decide +kernel
theorem tw_31 {a0 : Array Value} {Z : State} (hw : ∀ d ∈ tables_1, d.before a0 Z = true) : (Jvm.Cond.fieldLink "com/example/pathwise/pathwise/sparql/PropertyPath$Repetition" (3 : Nat) "com/example/pathwise/pathwise/sparql/PropertyPath$Repetition" "ZERO_OR_MORE" "Lcom/example/pathwise/pathwise/sparql/PropertyPath$Repetition;").before a0 Z = true := hw _ (List.mem_of_getElem? (i := 31) rfl)
theorem d4_41 : decode prog_118_method_6_code 41 = .ok (.goto 6, 3) := by decide +kernel
theorem d4_47 : decode prog_118_method_6_code 47 = .ok (.areturn, 1) := by decide +kernel
abbrev R_1_0_0_12 : Room := { frames := 1, cells := 0, slots := 0, locals := 12 }
abbrev M_4 : MethodName := ⟨"com/example/pathwise/pathwise/sparql/PropertyPath$Repetition", "around", "(Lcom/example/pathwise/pathwise/sparql/PropertyPath$Repetition;)Lcom/example/pathwise/pathwise/sparql/PropertyPath$Repetition;"⟩
theorem ef4_RR (m : MethodId) (x0 : Addr) (x1 : Addr) : entryFrame m #[(.ref x0), (.ref x1)] 3 = mkF m 0 #[.val (.ref x0), .val (.ref x1), .unset] [] := by first | (simp [entryFrame, mkF, argsToLocals, Value.category]; done) | rfl
set_option maxRecDepth 65536 in
set_option maxHeartbeats 40000000 in
theorem rm4_15 (l : Launch) (Z : State) (a0 : Array Value) (hw : ∀ d ∈ tables_1, d.before a0 Z = true) (ws : List Jvm.Cond) (a_ZERO_OR_MORE : Addr) (a_ONE_OR_MORE : Addr) (a_ZERO_OR_ONE : Addr) (h0 : Heap) (n0 : Nat) (Z0 : n0 ≤ h0.size) (f1 : S_1 Z h0 (.ref a_ONE_OR_MORE)) (f2 : a_ZERO_OR_MORE ≠ a_ONE_OR_MORE) (f3 : E_0 Z h0 a_ZERO_OR_MORE) (f4 : S_2 Z h0 (.ref a_ZERO_OR_ONE)) (f5 : a_ZERO_OR_MORE ≠ a_ZERO_OR_ONE) (f6 : S_0 Z h0 (.ref a_ZERO_OR_MORE)) :
    MetFree l M_4 (head1 (Jvm.Cond.code M_4 prog_118_method_6_code 3 (some (.object "com/example/pathwise/pathwise/sparql/PropertyPath$Repetition")) :: ws) R_1_0_0_12) (fun a U => a = #[(.ref a_ZERO_OR_MORE), (.ref a_ZERO_OR_MORE)] ∧ Z.Warmed39 U.vm ∧ U.heap = h0) (fun _ _ _ _ _ => True) (fun _ U o U' => ∃ v L, o = .returned v ∧ QP (some (.ref a_ZERO_OR_MORE)) h0 n0 v U'.heap L ∧ FrameEnd U o U' L R_1_0_0_12.cells R_1_0_0_12.slots) := by
  refine MetFree.of_bodySF (plainFor_of_name pn_com_example_pathwise_pathwise_sparql_PropertyPath_Repetition) hisR ?_
  intro p e s m args below meth c s₁ Bd hml0 hP hK
  obtain ⟨rfl, hZ, hh⟩ := hP
  have hx := Bd.exec
  have hby := Bd.bytes
  have hml : c.maxLocals = 3 := hml0
  have hown : s.vm.findClass "com/example/pathwise/pathwise/sparql/PropertyPath$Repetition" = some m.cls := findClass_of_methodNamed Bd.named
  have hnm := (name_of_methodNamed Bd.named Bd.method).1
  have X0 : Stand p l e R_1_0_0_12 s m #[(.ref a_ZERO_OR_MORE), (.ref a_ZERO_OR_MORE)] below meth c s₁ [] 0 0 := Stand.of_body Bd
  have e0 : s₁.heap = h0 := by rw [← hh, Bd.state]; rfl
  have N0 := Fr.nil n0
  -- pc 1: com/example/pathwise/pathwise/sparql/PropertyPath$Repetition.zeroLength
  obtain ⟨cq1, kq1, q1a, q1b, q1c⟩ := isOf hZ e0 f3
  obtain ⟨_, _, ⟨T1, L1, k1, n1⟩, -, X1, ⟨Lc1, hQ1, l1, y1, z1⟩, st1⟩ := X0.virtualBack hx (y := M_2) (z := M_2) hown (mvT hZ (tw_23 hw)) (mvT hZ (tw_12 hw)) (notFace_of_selects (args := #[]) (mvT hZ (tw_14 hw))) (mvT hZ (tw_14 hw)) (mvT hZ (tw_13 hw)) (by decide) (backOf (W := 0) (rm3_13 l Z a0 hw [] a_ZERO_OR_MORE a_ONE_OR_MORE h0 n0 Z0 f1 f2) hZ (tw_15 hw) (tw_6 hw) (by decide) (by decide)) q1a q1c (g := (mkF m 1 #[.val (.ref a_ZERO_OR_MORE), .val (.ref a_ZERO_OR_MORE), .unset] [(.ref a_ZERO_OR_MORE)])) rfl (by rw [hml]; rfl) (Steps.refl _) (argsL := []) (rest := []) (lenOf pd_2 rfl) rfl (by show 2 * 0 + _ ≤ _; exact Nat.le_of_eq rfl) (hb hby d4_1) (fun _ _ => ⟨rfl, e0, (by decide : 0 + 0 ≤ _), (by decide : 0 + 0 ≤ _)⟩)
  dsimp only [Pt.U, Pt.locs, Pt.cells, Pt.slots] at X1 l1 y1 z1 st1 hQ1
  subst l1 y1 z1
  obtain ⟨rfl, Nq1, e1⟩ := hQ1
  have N1 := Fr.app N0 Nq1
  -- pc 21: com/example/pathwise/pathwise/sparql/PropertyPath$Repetition.unbounded
  obtain ⟨cq2, kq2, q2a, q2b, q2c⟩ := isOf hZ e1 f3
  obtain ⟨_, _, ⟨T2, L2, k2, n2⟩, -, X2, ⟨Lc2, hQ2, l2, y2, z2⟩, st2⟩ := X1.virtualBack hx (y := M_3) (z := M_3) hown (mvT hZ (tw_24 hw)) (mvT hZ (tw_25 hw)) (notFace_of_selects (args := #[]) (mvT hZ (tw_27 hw))) (mvT hZ (tw_27 hw)) (mvT hZ (tw_26 hw)) (by decide) (backOf (W := 0) (rm5_14 l Z a0 hw [] a_ZERO_OR_MORE a_ZERO_OR_ONE h0 n0 Z0 f4 f5) hZ (tw_28 hw) (tw_6 hw) (by decide) (by decide)) q2a q2c (g := (mkF m 21 #[.val (.ref a_ZERO_OR_MORE), .val (.ref a_ZERO_OR_MORE), .val (.int 1)] [(.ref a_ZERO_OR_MORE)])) rfl (by rw [hml]; rfl) (Steps.refl _) (argsL := []) (rest := []) (lenOf pd_2 rfl) rfl (by show 2 * 0 + _ ≤ _; exact Nat.le_of_eq rfl) (hb hby d4_21) (fun _ _ => ⟨rfl, e1, (by decide : 0 + 0 ≤ _), (by decide : 0 + 0 ≤ _)⟩)
  dsimp only [Pt.U, Pt.locs, Pt.cells, Pt.slots] at X2 l2 y2 z2 st2 hQ2
  subst l2 y2 z2
  obtain ⟨rfl, Nq2, e2⟩ := hQ2
  have N2 := Fr.app N1 Nq2
  obtain ⟨T3, X3, e3, st3⟩ := getS2 X2 hx hZ hown (host := "") (Or.inl (tw_31 hw)) Via.refl e2 f6 (g := (mkF m 38 #[.val (.ref a_ZERO_OR_MORE), .val (.ref a_ZERO_OR_MORE), .val (.int 1)] [])) rfl (hb hby d4_38)
  obtain ⟨fs, hr, hrun, hended, hW, hsame⟩ := X3.leave (v := (some (.ref a_ZERO_OR_MORE))) (fun h => by rw [Bd.returns] at h; cases h)
  refine ⟨_, _, castTop (ef4_RR m a_ZERO_OR_MORE a_ZERO_OR_MORE) ?_, hrun, hended, _, _, rfl, ?_, ⟨_, rfl⟩, hW, hsame.mono (by decide) (by decide)⟩
  · show Steps p.tables e below (s₁.setTop (mkF m 0 #[.val (.ref a_ZERO_OR_MORE), .val (.ref a_ZERO_OR_MORE), .unset] [])) _
    refine XS.aloadN X0.here hx rfl (hb hby d4_0) rfl rfl ?_
    show Steps p.tables e below (s₁.setTop (mkF m 1 #[.val (.ref a_ZERO_OR_MORE), .val (.ref a_ZERO_OR_MORE), .unset] [(.ref a_ZERO_OR_MORE)])) _
    refine st1.trans ?_
    refine XS.ifYes X1.here hx rfl (pc0 := 4) (pc' := 14) rfl (hb hby d4_4) rfl (by decide) (by decide) (by decide) ?_
    refine XS.iconst X1.here hx rfl (hb hby d4_14) ?_
    refine XS.goto X1.here hx rfl (pc0 := 15) (pc' := 19) rfl (hb hby d4_15) (by decide) (by decide) ?_
    refine XS.istoreN X1.here hx rfl (hb hby d4_19) rfl (l' := #[.val (.ref a_ZERO_OR_MORE), .val (.ref a_ZERO_OR_MORE), .val (.int 1)]) rfl ?_
    show Steps p.tables e below (T1.setTop (mkF m 20 #[.val (.ref a_ZERO_OR_MORE), .val (.ref a_ZERO_OR_MORE), .val (.int 1)] [])) _
    refine XS.aloadN X1.here hx rfl (hb hby d4_20) rfl rfl ?_
    show Steps p.tables e below (T1.setTop (mkF m 21 #[.val (.ref a_ZERO_OR_MORE), .val (.ref a_ZERO_OR_MORE), .val (.int 1)] [(.ref a_ZERO_OR_MORE)])) _
    refine st2.trans ?_
    refine XS.ifYes X2.here hx rfl (pc0 := 24) (pc' := 34) rfl (hb hby d4_24) rfl (by decide) (by decide) (by decide) ?_
    refine XS.iloadN X2.here hx rfl (hb hby d4_34) rfl ?_
    refine XS.ifNo X2.here hx rfl (hb hby d4_35) rfl (by decide) ?_
    show Steps p.tables e below (T2.setTop (mkF m 38 #[.val (.ref a_ZERO_OR_MORE), .val (.ref a_ZERO_OR_MORE), .val (.int 1)] [])) _
    refine st3 _ ?_
    refine XS.goto X3.here hx rfl (pc0 := 41) (pc' := 47) rfl (hb hby d4_41) (by decide) (by decide) ?_
    show Steps p.tables e below (T3.setTop (mkF m 47 #[.val (.ref a_ZERO_OR_MORE), .val (.ref a_ZERO_OR_MORE), .val (.int 1)] [(.ref a_ZERO_OR_MORE)])) _
    jvm_step X3.here [X3.here.top, hx, (hb hby d4_47), X3.method', Bd.returns, Value.isRef, FieldType.isReference]
    first | (intro acts; rw [hr _ acts rfl rfl rfl]) | rw [hr _ _ rfl rfl rfl]
    exact Steps.refl _
  · show QP (some (.ref a_ZERO_OR_MORE)) h0 n0 _ T3.heap _
    rw [e3]
    exact ⟨rfl, N2, rfl⟩
theorem pd_3 : parseMethodDescriptor "(Lcom/example/pathwise/pathwise/sparql/PropertyPath$Repetition;)Lcom/example/pathwise/pathwise/sparql/PropertyPath$Repetition;" = some ⟨[(.object "com/example/pathwise/pathwise/sparql/PropertyPath$Repetition")], some (.object "com/example/pathwise/pathwise/sparql/PropertyPath$Repetition")⟩ := by decide +kernel
theorem tw_21 {a0 : Array Value} {Z : State} (hw : ∀ d ∈ tables_1, d.before a0 Z = true) : (Jvm.Cond.selects "com/example/pathwise/pathwise/sparql/PropertyPath$Repetition" ({ cls := "com/example/pathwise/pathwise/sparql/PropertyPath$Repetition", name := "around", desc := "(Lcom/example/pathwise/pathwise/sparql/PropertyPath$Repetition;)Lcom/example/pathwise/pathwise/sparql/PropertyPath$Repetition;" } : Jvm.MethodName) ({ cls := "com/example/pathwise/pathwise/sparql/PropertyPath$Repetition", name := "around", desc := "(Lcom/example/pathwise/pathwise/sparql/PropertyPath$Repetition;)Lcom/example/pathwise/pathwise/sparql/PropertyPath$Repetition;" } : Jvm.MethodName)).before a0 Z = true := hw _ (List.mem_of_getElem? (i := 21) rfl)
theorem tw_19 {a0 : Array Value} {Z : State} (hw : ∀ d ∈ tables_1, d.before a0 Z = true) : (Jvm.Cond.declares ({ cls := "com/example/pathwise/pathwise/sparql/PropertyPath$Repetition", name := "around", desc := "(Lcom/example/pathwise/pathwise/sparql/PropertyPath$Repetition;)Lcom/example/pathwise/pathwise/sparql/PropertyPath$Repetition;" } : Jvm.MethodName)).before a0 Z = true := hw _ (List.mem_of_getElem? (i := 19) rfl)
theorem tw_20 {a0 : Array Value} {Z : State} (hw : ∀ d ∈ tables_1, d.before a0 Z = true) : (Jvm.Cond.instanceMethod ({ cls := "com/example/pathwise/pathwise/sparql/PropertyPath$Repetition", name := "around", desc := "(Lcom/example/pathwise/pathwise/sparql/PropertyPath$Repetition;)Lcom/example/pathwise/pathwise/sparql/PropertyPath$Repetition;" } : Jvm.MethodName)).before a0 Z = true := hw _ (List.mem_of_getElem? (i := 20) rfl)
theorem ef0_II (m : MethodId) (x0 : Int32) (x1 : Int32) : entryFrame m #[(.int x0), (.int x1)] maxLocals = mkF m 0 #[.val (.int x0), .val (.int x1), .unset, .unset, .unset, .unset, .unset, .unset] [] := by first | (simp [entryFrame, mkF, argsToLocals, Value.category, maxLocals]; done) | rfl
set_option maxRecDepth 65536 in
set_option maxHeartbeats 40000000 in
theorem rm0_16 (l : Launch) (Z : State) (a0 : Array Value) (hw : ∀ d ∈ tables_1, d.before a0 Z = true) (ws : List Jvm.Cond) (p0 : Int32) (p1 : Int32) (a_ZERO_OR_MORE : Addr) (a_ONE_OR_MORE : Addr) (a_ZERO_OR_ONE : Addr) (h0 : Heap) (n0 : Nat) (Z0 : n0 ≤ h0.size) (f1 : ((p0 &&& (2147483647 : Int32)) % (3 : Int32)) = (0 : Int32)) (f2 : ((p1 &&& (2147483647 : Int32)) % (3 : Int32)) = (0 : Int32)) (f3 : S_0 Z h0 (.ref a_ZERO_OR_MORE)) (f4 : S_1 Z h0 (.ref a_ONE_OR_MORE)) (f5 : a_ZERO_OR_MORE ≠ a_ONE_OR_MORE) (f6 : E_0 Z h0 a_ZERO_OR_MORE) (f7 : S_2 Z h0 (.ref a_ZERO_OR_ONE)) (f8 : a_ZERO_OR_MORE ≠ a_ZERO_OR_ONE) :
    MetFree l x (head1 (Jvm.Cond.code x code maxLocals ret :: ws) room_1) (fun a U => a = #[(.int p0), (.int p1)] ∧ Z.Warmed39 U.vm ∧ U.heap = h0) (fun _ _ _ _ _ => True) (fun _ U o U' => ∃ v L, o = .returned v ∧ QT n0 v U'.heap L ∧ FrameEnd U o U' L room_1.cells room_1.slots) := by
  refine MetFree.of_bodySF (plainFor_of_name pn_com_example_pathwise_pathwise_sparql_RepetitionZeroLengthPinLaw) hisR ?_
  intro p e s m args below meth c s₁ Bd hml0 hP hK
  obtain ⟨rfl, hZ, hh⟩ := hP
  have hx := Bd.exec
  have hby := Bd.bytes
  have hml : c.maxLocals = 8 := hml0
  have hown : s.vm.findClass "com/example/pathwise/pathwise/sparql/RepetitionZeroLengthPinLaw" = some m.cls := findClass_of_methodNamed Bd.named
  have hnm := (name_of_methodNamed Bd.named Bd.method).1
  have X0 : Stand p l e room_1 s m #[(.int p0), (.int p1)] below meth c s₁ [] 0 0 := Stand.of_body Bd
  have e0 : s₁.heap = h0 := by rw [← hh, Bd.state]; rfl
  have N0 := Fr.nil n0
  -- pc 15: com/example/pathwise/pathwise/sparql/RepetitionZeroLengthPinLaw.pick
  obtain ⟨_, _, ⟨T1, L1, k1, n1⟩, -, X1, ⟨Lc1, hQ1, l1, y1, z1⟩, st1⟩ := Jvm.LawKit.callS X0 hx (y := M_0) hown (mvT hZ (tw_1 hw)) (mvT hZ (tw_2 hw)) (mvT hZ (tw_3 hw)) (mvT hZ (tw_4 hw)) (by decide) (backOf (W := 0) (rm1_11 l Z a0 hw [] a_ZERO_OR_MORE h0 n0 Z0 f3) hZ (tw_4 hw) (tw_3 hw) (by decide) (by decide)) (g := (mkF m 15 #[.val (.int p0), .val (.int p1), .val (.int 0), .val (.int 0), .unset, .unset, .unset, .unset] [(.int 0)])) rfl (by rw [hml]; rfl) (argsL := [(.int 0)]) (rest := []) (lenOf pd_0 rfl) rfl (by show 2 * 0 + _ ≤ _; exact Nat.le_of_eq rfl) (hb hby at_15) (fun _ _ => ⟨rfl, e0, (by decide : 0 + 0 ≤ _), (by decide : 0 + 0 ≤ _)⟩)
  dsimp only [Pt.U, Pt.locs, Pt.cells, Pt.slots] at X1 l1 y1 z1 st1 hQ1
  subst l1 y1 z1
  obtain ⟨rfl, Nq1, e1⟩ := hQ1
  have N1 := Fr.app N0 Nq1
  -- pc 21: com/example/pathwise/pathwise/sparql/RepetitionZeroLengthPinLaw.pick
  obtain ⟨_, _, ⟨T2, L2, k2, n2⟩, -, X2, ⟨Lc2, hQ2, l2, y2, z2⟩, st2⟩ := Jvm.LawKit.callS X1 hx (y := M_0) hown (mvT hZ (tw_1 hw)) (mvT hZ (tw_2 hw)) (mvT hZ (tw_3 hw)) (mvT hZ (tw_4 hw)) (by decide) (backOf (W := 0) (rm1_11 l Z a0 hw [] a_ZERO_OR_MORE h0 n0 Z0 f3) hZ (tw_4 hw) (tw_3 hw) (by decide) (by decide)) (g := (mkF m 21 #[.val (.int p0), .val (.int p1), .val (.int 0), .val (.int 0), .val (.ref a_ZERO_OR_MORE), .unset, .unset, .unset] [(.int 0)])) rfl (by rw [hml]; rfl) (argsL := [(.int 0)]) (rest := []) (lenOf pd_0 rfl) rfl (by show 2 * 0 + _ ≤ _; exact Nat.le_of_eq rfl) (hb hby at_21) (fun _ _ => ⟨rfl, e1, (by decide : 0 + 0 ≤ _), (by decide : 0 + 0 ≤ _)⟩)
  dsimp only [Pt.U, Pt.locs, Pt.cells, Pt.slots] at X2 l2 y2 z2 st2 hQ2
  subst l2 y2 z2
  obtain ⟨rfl, Nq2, e2⟩ := hQ2
  have N2 := Fr.app N1 Nq2
  -- pc 27: com/example/pathwise/pathwise/sparql/RepetitionZeroLengthPinLaw.expected
  obtain ⟨_, _, ⟨T3, L3, k3, n3⟩, -, X3, ⟨Lc3, hQ3, l3, y3, z3⟩, st3⟩ := Jvm.LawKit.callS X2 hx (y := M_1) hown (mvT hZ (tw_8 hw)) (mvT hZ (tw_9 hw)) (mvT hZ (tw_3 hw)) (mvT hZ (tw_10 hw)) (by decide) (backOf (W := 0) (rm2_12 l Z a0 hw []  h0 n0 Z0 ) hZ (tw_10 hw) (tw_3 hw) (by decide) (by decide)) (g := (mkF m 27 #[.val (.int p0), .val (.int p1), .val (.int 0), .val (.int 0), .val (.ref a_ZERO_OR_MORE), .val (.ref a_ZERO_OR_MORE), .unset, .unset] [(.int 0)])) rfl (by rw [hml]; rfl) (argsL := [(.int 0)]) (rest := []) (lenOf pd_1 rfl) rfl (by show 2 * 0 + _ ≤ _; exact Nat.le_of_eq rfl) (hb hby at_27) (fun _ _ => ⟨rfl, e2, (by decide : 0 + 0 ≤ _), (by decide : 0 + 0 ≤ _)⟩)
  dsimp only [Pt.U, Pt.locs, Pt.cells, Pt.slots] at X3 l3 y3 z3 st3 hQ3
  subst l3 y3 z3
  obtain ⟨rfl, Nq3, e3⟩ := hQ3
  have N3 := Fr.app N2 Nq3
  -- pc 33: com/example/pathwise/pathwise/sparql/RepetitionZeroLengthPinLaw.expected
  obtain ⟨_, _, ⟨T4, L4, k4, n4⟩, -, X4, ⟨Lc4, hQ4, l4, y4, z4⟩, st4⟩ := Jvm.LawKit.callS X3 hx (y := M_1) hown (mvT hZ (tw_8 hw)) (mvT hZ (tw_9 hw)) (mvT hZ (tw_3 hw)) (mvT hZ (tw_10 hw)) (by decide) (backOf (W := 0) (rm2_12 l Z a0 hw []  h0 n0 Z0 ) hZ (tw_10 hw) (tw_3 hw) (by decide) (by decide)) (g := (mkF m 33 #[.val (.int p0), .val (.int p1), .val (.int 0), .val (.int 0), .val (.ref a_ZERO_OR_MORE), .val (.ref a_ZERO_OR_MORE), .val (.int 1), .unset] [(.int 0)])) rfl (by rw [hml]; rfl) (argsL := [(.int 0)]) (rest := []) (lenOf pd_1 rfl) rfl (by show 2 * 0 + _ ≤ _; exact Nat.le_of_eq rfl) (hb hby at_33) (fun _ _ => ⟨rfl, e3, (by decide : 0 + 0 ≤ _), (by decide : 0 + 0 ≤ _)⟩)
  dsimp only [Pt.U, Pt.locs, Pt.cells, Pt.slots] at X4 l4 y4 z4 st4 hQ4
  subst l4 y4 z4
  obtain ⟨rfl, Nq4, e4⟩ := hQ4
  have N4 := Fr.app N3 Nq4
  -- pc 40: com/example/pathwise/pathwise/sparql/PropertyPath$Repetition.zeroLength
  obtain ⟨cq5, kq5, q5a, q5b, q5c⟩ := isOf hZ e4 f6
  obtain ⟨_, _, ⟨T5, L5, k5, n5⟩, -, X5, ⟨Lc5, hQ5, l5, y5, z5⟩, st5⟩ := X4.virtualBack hx (y := M_2) (z := M_2) hown (mvT hZ (tw_11 hw)) (mvT hZ (tw_12 hw)) (notFace_of_selects (args := #[]) (mvT hZ (tw_14 hw))) (mvT hZ (tw_14 hw)) (mvT hZ (tw_13 hw)) (by decide) (backOf (W := 0) (rm3_13 l Z a0 hw [] a_ZERO_OR_MORE a_ONE_OR_MORE h0 n0 Z0 f4 f5) hZ (tw_15 hw) (tw_6 hw) (by decide) (by decide)) q5a q5c (g := (mkF m 40 #[.val (.int p0), .val (.int p1), .val (.int 0), .val (.int 0), .val (.ref a_ZERO_OR_MORE), .val (.ref a_ZERO_OR_MORE), .val (.int 1), .val (.int 1)] [(.ref a_ZERO_OR_MORE)])) rfl (by rw [hml]; rfl) (Steps.refl _) (argsL := []) (rest := []) (lenOf pd_2 rfl) rfl (by show 2 * 0 + _ ≤ _; exact Nat.le_of_eq rfl) (hb hby at_40) (fun _ _ => ⟨rfl, e4, (by decide : 0 + 0 ≤ _), (by decide : 0 + 0 ≤ _)⟩)
  dsimp only [Pt.U, Pt.locs, Pt.cells, Pt.slots] at X5 l5 y5 z5 st5 hQ5
  subst l5 y5 z5
  obtain ⟨rfl, Nq5, e5⟩ := hQ5
  have N5 := Fr.app N4 Nq5
  -- pc 52: com/example/pathwise/pathwise/sparql/PropertyPath$Repetition.zeroLength
  obtain ⟨cq6, kq6, q6a, q6b, q6c⟩ := isOf hZ e5 f6
  obtain ⟨_, _, ⟨T6, L6, k6, n6⟩, -, X6, ⟨Lc6, hQ6, l6, y6, z6⟩, st6⟩ := X5.virtualBack hx (y := M_2) (z := M_2) hown (mvT hZ (tw_11 hw)) (mvT hZ (tw_12 hw)) (notFace_of_selects (args := #[]) (mvT hZ (tw_14 hw))) (mvT hZ (tw_14 hw)) (mvT hZ (tw_13 hw)) (by decide) (backOf (W := 0) (rm3_13 l Z a0 hw [] a_ZERO_OR_MORE a_ONE_OR_MORE h0 n0 Z0 f4 f5) hZ (tw_15 hw) (tw_6 hw) (by decide) (by decide)) q6a q6c (g := (mkF m 52 #[.val (.int p0), .val (.int p1), .val (.int 0), .val (.int 0), .val (.ref a_ZERO_OR_MORE), .val (.ref a_ZERO_OR_MORE), .val (.int 1), .val (.int 1)] [(.ref a_ZERO_OR_MORE)])) rfl (by rw [hml]; rfl) (Steps.refl _) (argsL := []) (rest := []) (lenOf pd_2 rfl) rfl (by show 2 * 0 + _ ≤ _; exact Nat.le_of_eq rfl) (hb hby at_52) (fun _ _ => ⟨rfl, e5, (by decide : 0 + 0 ≤ _), (by decide : 0 + 0 ≤ _)⟩)
  dsimp only [Pt.U, Pt.locs, Pt.cells, Pt.slots] at X6 l6 y6 z6 st6 hQ6
  subst l6 y6 z6
  obtain ⟨rfl, Nq6, e6⟩ := hQ6
  have N6 := Fr.app N5 Nq6
  -- pc 66: com/example/pathwise/pathwise/sparql/PropertyPath$Repetition.around
  obtain ⟨cq7, kq7, q7a, q7b, q7c⟩ := isOf hZ e6 f6
  obtain ⟨_, _, ⟨T7, L7, k7, n7⟩, -, X7, ⟨Lc7, hQ7, l7, y7, z7⟩, st7⟩ := X6.virtualBack hx (y := M_4) (z := M_4) hown (mvT hZ (tw_18 hw)) (mvT hZ (tw_19 hw)) (notFace_of_selects (args := #[]) (mvT hZ (tw_21 hw))) (mvT hZ (tw_21 hw)) (mvT hZ (tw_20 hw)) (by decide) (backOf (W := 0) (rm4_15 l Z a0 hw [] a_ZERO_OR_MORE a_ONE_OR_MORE a_ZERO_OR_ONE h0 n0 Z0 f4 f5 f6 f7 f8 f3) hZ (tw_22 hw) (tw_6 hw) (by decide) (by decide)) q7a q7c (g := (mkF m 66 #[.val (.int p0), .val (.int p1), .val (.int 0), .val (.int 0), .val (.ref a_ZERO_OR_MORE), .val (.ref a_ZERO_OR_MORE), .val (.int 1), .val (.int 1)] [(.ref a_ZERO_OR_MORE), (.ref a_ZERO_OR_MORE)])) rfl (by rw [hml]; rfl) (Steps.refl _) (argsL := [(.ref a_ZERO_OR_MORE)]) (rest := []) (lenOf pd_3 rfl) rfl (by show 2 * 0 + _ ≤ _; exact Nat.le_of_eq rfl) (hb hby at_66) (fun _ _ => ⟨rfl, e6, (by decide : 0 + 0 ≤ _), (by decide : 0 + 0 ≤ _)⟩)
  dsimp only [Pt.U, Pt.locs, Pt.cells, Pt.slots] at X7 l7 y7 z7 st7 hQ7
  subst l7 y7 z7
  obtain ⟨rfl, Nq7, e7⟩ := hQ7
  have N7 := Fr.app N6 Nq7
  -- pc 69: com/example/pathwise/pathwise/sparql/PropertyPath$Repetition.zeroLength
  obtain ⟨cq8, kq8, q8a, q8b, q8c⟩ := isOf hZ e7 f6
  obtain ⟨_, _, ⟨T8, L8, k8, n8⟩, -, X8, ⟨Lc8, hQ8, l8, y8, z8⟩, st8⟩ := X7.virtualBack hx (y := M_2) (z := M_2) hown (mvT hZ (tw_11 hw)) (mvT hZ (tw_12 hw)) (notFace_of_selects (args := #[]) (mvT hZ (tw_14 hw))) (mvT hZ (tw_14 hw)) (mvT hZ (tw_13 hw)) (by decide) (backOf (W := 0) (rm3_13 l Z a0 hw [] a_ZERO_OR_MORE a_ONE_OR_MORE h0 n0 Z0 f4 f5) hZ (tw_15 hw) (tw_6 hw) (by decide) (by decide)) q8a q8c (g := (mkF m 69 #[.val (.int p0), .val (.int p1), .val (.int 0), .val (.int 0), .val (.ref a_ZERO_OR_MORE), .val (.ref a_ZERO_OR_MORE), .val (.int 1), .val (.int 1)] [(.ref a_ZERO_OR_MORE)])) rfl (by rw [hml]; rfl) (Steps.refl _) (argsL := []) (rest := []) (lenOf pd_2 rfl) rfl (by show 2 * 0 + _ ≤ _; exact Nat.le_of_eq rfl) (hb hby at_69) (fun _ _ => ⟨rfl, e7, (by decide : 0 + 0 ≤ _), (by decide : 0 + 0 ≤ _)⟩)
  dsimp only [Pt.U, Pt.locs, Pt.cells, Pt.slots] at X8 l8 y8 z8 st8 hQ8
  subst l8 y8 z8
  obtain ⟨rfl, Nq8, e8⟩ := hQ8
  have N8 := Fr.app N7 Nq8
  obtain ⟨fs, hr, hrun, hended, hW, hsame⟩ := X8.leave (v := (some (.int 1))) (fun h => by rw [Bd.returns] at h; cases h)
  refine ⟨_, _, castTop (ef0_II m p0 p1) ?_, hrun, hended, _, _, rfl, ?_, ⟨_, rfl⟩, hW, hsame.mono (by decide) (by decide)⟩
  · show Steps p.tables e below (s₁.setTop (mkF m 0 #[.val (.int p0), .val (.int p1), .unset, .unset, .unset, .unset, .unset, .unset] [])) _
    refine XS.iloadN X0.here hx rfl (hb hby at_0) rfl ?_
    show Steps p.tables e below (s₁.setTop (mkF m 1 #[.val (.int p0), .val (.int p1), .unset, .unset, .unset, .unset, .unset, .unset] [(.int p0)])) _
    refine X0.ldcInt hx hown (mvT hZ (tw_0 hw)) (g := (mkF m 1 #[.val (.int p0), .val (.int p1), .unset, .unset, .unset, .unset, .unset, .unset] [(.int p0)])) rfl (hb hby at_1) _ ?_
    show Steps p.tables e below (s₁.setTop (mkF m 3 #[.val (.int p0), .val (.int p1), .unset, .unset, .unset, .unset, .unset, .unset] [(.int 2147483647), (.int p0)])) _
    refine XS.iand X0.here hx rfl (hb hby at_3) rfl ?_
    refine XS.iconst X0.here hx rfl (hb hby at_4) ?_
    show Steps p.tables e below (s₁.setTop (mkF m 5 #[.val (.int p0), .val (.int p1), .unset, .unset, .unset, .unset, .unset, .unset] [(.int 3), (.int (p0 &&& (2147483647 : Int32)))])) _
    refine iremM X0 hx rfl (hb hby at_5) rfl (by decide) ?_
    show Steps p.tables e below (s₁.setTop (mkF m 6 #[.val (.int p0), .val (.int p1), .unset, .unset, .unset, .unset, .unset, .unset] [(.int ((p0 &&& (2147483647 : Int32)) % (3 : Int32)))])) _
    rw [f1]
    refine XS.istoreN X0.here hx rfl (hb hby at_6) rfl (l' := #[.val (.int p0), .val (.int p1), .val (.int 0), .unset, .unset, .unset, .unset, .unset]) rfl ?_
    refine XS.iloadN X0.here hx rfl (hb hby at_7) rfl ?_
    show Steps p.tables e below (s₁.setTop (mkF m 8 #[.val (.int p0), .val (.int p1), .val (.int 0), .unset, .unset, .unset, .unset, .unset] [(.int p1)])) _
    refine X0.ldcInt hx hown (mvT hZ (tw_0 hw)) (g := (mkF m 8 #[.val (.int p0), .val (.int p1), .val (.int 0), .unset, .unset, .unset, .unset, .unset] [(.int p1)])) rfl (hb hby at_8) _ ?_
    show Steps p.tables e below (s₁.setTop (mkF m 10 #[.val (.int p0), .val (.int p1), .val (.int 0), .unset, .unset, .unset, .unset, .unset] [(.int 2147483647), (.int p1)])) _
    refine XS.iand X0.here hx rfl (hb hby at_10) rfl ?_
    refine XS.iconst X0.here hx rfl (hb hby at_11) ?_
    show Steps p.tables e below (s₁.setTop (mkF m 12 #[.val (.int p0), .val (.int p1), .val (.int 0), .unset, .unset, .unset, .unset, .unset] [(.int 3), (.int (p1 &&& (2147483647 : Int32)))])) _
    refine iremM X0 hx rfl (hb hby at_12) rfl (by decide) ?_
    show Steps p.tables e below (s₁.setTop (mkF m 13 #[.val (.int p0), .val (.int p1), .val (.int 0), .unset, .unset, .unset, .unset, .unset] [(.int ((p1 &&& (2147483647 : Int32)) % (3 : Int32)))])) _
    rw [f2]
    refine XS.istoreN X0.here hx rfl (hb hby at_13) rfl (l' := #[.val (.int p0), .val (.int p1), .val (.int 0), .val (.int 0), .unset, .unset, .unset, .unset]) rfl ?_
    refine XS.iloadN X0.here hx rfl (hb hby at_14) rfl ?_
    show Steps p.tables e below (s₁.setTop (mkF m 15 #[.val (.int p0), .val (.int p1), .val (.int 0), .val (.int 0), .unset, .unset, .unset, .unset] [(.int 0)])) _
    refine st1 _ ?_
    refine XS.astore X1.here hx rfl (hb hby at_18) rfl rfl (l' := #[.val (.int p0), .val (.int p1), .val (.int 0), .val (.int 0), .val (.ref a_ZERO_OR_MORE), .unset, .unset, .unset]) rfl ?_
    refine XS.iloadN X1.here hx rfl (hb hby at_20) rfl ?_
    show Steps p.tables e below (T1.setTop (mkF m 21 #[.val (.int p0), .val (.int p1), .val (.int 0), .val (.int 0), .val (.ref a_ZERO_OR_MORE), .unset, .unset, .unset] [(.int 0)])) _
    refine st2 _ ?_
    refine XS.astore X2.here hx rfl (hb hby at_24) rfl rfl (l' := #[.val (.int p0), .val (.int p1), .val (.int 0), .val (.int 0), .val (.ref a_ZERO_OR_MORE), .val (.ref a_ZERO_OR_MORE), .unset, .unset]) rfl ?_
    refine XS.iloadN X2.here hx rfl (hb hby at_26) rfl ?_
    show Steps p.tables e below (T2.setTop (mkF m 27 #[.val (.int p0), .val (.int p1), .val (.int 0), .val (.int 0), .val (.ref a_ZERO_OR_MORE), .val (.ref a_ZERO_OR_MORE), .unset, .unset] [(.int 0)])) _
    refine st3 _ ?_
    refine XS.istore X3.here hx rfl (hb hby at_30) rfl (l' := #[.val (.int p0), .val (.int p1), .val (.int 0), .val (.int 0), .val (.ref a_ZERO_OR_MORE), .val (.ref a_ZERO_OR_MORE), .val (.int 1), .unset]) rfl ?_
    refine XS.iloadN X3.here hx rfl (hb hby at_32) rfl ?_
    show Steps p.tables e below (T3.setTop (mkF m 33 #[.val (.int p0), .val (.int p1), .val (.int 0), .val (.int 0), .val (.ref a_ZERO_OR_MORE), .val (.ref a_ZERO_OR_MORE), .val (.int 1), .unset] [(.int 0)])) _
    refine st4 _ ?_
    refine XS.istore X4.here hx rfl (hb hby at_36) rfl (l' := #[.val (.int p0), .val (.int p1), .val (.int 0), .val (.int 0), .val (.ref a_ZERO_OR_MORE), .val (.ref a_ZERO_OR_MORE), .val (.int 1), .val (.int 1)]) rfl ?_
    refine XS.aload X4.here hx rfl (hb hby at_38) rfl rfl ?_
    show Steps p.tables e below (T4.setTop (mkF m 40 #[.val (.int p0), .val (.int p1), .val (.int 0), .val (.int 0), .val (.ref a_ZERO_OR_MORE), .val (.ref a_ZERO_OR_MORE), .val (.int 1), .val (.int 1)] [(.ref a_ZERO_OR_MORE)])) _
    refine st5.trans ?_
    refine XS.iload X5.here hx rfl (hb hby at_43) rfl ?_
    refine XS.icmpYes X5.here hx rfl (pc0 := 45) (pc' := 50) rfl (hb hby at_45) rfl (by decide) (by decide) (by decide) ?_
    refine XS.aload X5.here hx rfl (hb hby at_50) rfl rfl ?_
    show Steps p.tables e below (T5.setTop (mkF m 52 #[.val (.int p0), .val (.int p1), .val (.int 0), .val (.int 0), .val (.ref a_ZERO_OR_MORE), .val (.ref a_ZERO_OR_MORE), .val (.int 1), .val (.int 1)] [(.ref a_ZERO_OR_MORE)])) _
    refine st6.trans ?_
    refine XS.iload X6.here hx rfl (hb hby at_55) rfl ?_
    refine XS.icmpYes X6.here hx rfl (pc0 := 57) (pc' := 62) rfl (hb hby at_57) rfl (by decide) (by decide) (by decide) ?_
    refine XS.aload X6.here hx rfl (hb hby at_62) rfl rfl ?_
    refine XS.aload X6.here hx rfl (hb hby at_64) rfl rfl ?_
    show Steps p.tables e below (T6.setTop (mkF m 66 #[.val (.int p0), .val (.int p1), .val (.int 0), .val (.int 0), .val (.ref a_ZERO_OR_MORE), .val (.ref a_ZERO_OR_MORE), .val (.int 1), .val (.int 1)] [(.ref a_ZERO_OR_MORE), (.ref a_ZERO_OR_MORE)])) _
    refine st7.trans ?_
    show Steps p.tables e below (T7.setTop (mkF m 69 #[.val (.int p0), .val (.int p1), .val (.int 0), .val (.int 0), .val (.ref a_ZERO_OR_MORE), .val (.ref a_ZERO_OR_MORE), .val (.int 1), .val (.int 1)] [(.ref a_ZERO_OR_MORE)])) _
    refine st8.trans ?_
    refine XS.iload X8.here hx rfl (hb hby at_72) rfl ?_
    refine XS.ifYes X8.here hx rfl (pc0 := 74) (pc' := 82) rfl (hb hby at_74) rfl (by decide) (by decide) (by decide) ?_
    refine XS.iconst X8.here hx rfl (hb hby at_82) ?_
    refine XS.goto X8.here hx rfl (pc0 := 83) (pc' := 87) rfl (hb hby at_83) (by decide) (by decide) ?_
    show Steps p.tables e below (T8.setTop (mkF m 87 #[.val (.int p0), .val (.int p1), .val (.int 0), .val (.int 0), .val (.ref a_ZERO_OR_MORE), .val (.ref a_ZERO_OR_MORE), .val (.int 1), .val (.int 1)] [(.int 1), (.int 1)])) _
    refine XS.icmpNo X8.here hx rfl (hb hby at_87) rfl (by decide) ?_
    refine XS.iconst X8.here hx rfl (hb hby at_90) ?_
    refine XS.goto X8.here hx rfl (pc0 := 91) (pc' := 95) rfl (hb hby at_91) (by decide) (by decide) ?_
    show Steps p.tables e below (T8.setTop (mkF m 95 #[.val (.int p0), .val (.int p1), .val (.int 0), .val (.int 0), .val (.ref a_ZERO_OR_MORE), .val (.ref a_ZERO_OR_MORE), .val (.int 1), .val (.int 1)] [(.int 1)])) _
    exact retN X8 hx (t := .boolean) Bd.returns (by simp) (hb hby at_95) hr
  · show QT n0 _ T8.heap _
    rw [e8]
    exact ⟨rfl, N8⟩
theorem d1_8 : decode method_2_code 8 = .ok (.iload_n 0, 1) := by decide +kernel
theorem d1_9 : decode method_2_code 9 = .ok (.iconst 1, 1) := by decide +kernel
theorem d1_10 : decode method_2_code 10 = .ok (.if_icmp .ne 7, 3) := by decide +kernel
theorem d1_13 : decode method_2_code 13 = .ok (.getstatic 13, 3) := by decide +kernel
theorem tw_33 {a0 : Array Value} {Z : State} (hw : ∀ d ∈ tables_1, d.before a0 Z = true) : (Jvm.Cond.fieldLink "com/example/pathwise/pathwise/sparql/RepetitionZeroLengthPinLaw" (13 : Nat) "com/example/pathwise/pathwise/sparql/PropertyPath$Repetition" "ONE_OR_MORE" "Lcom/example/pathwise/pathwise/sparql/PropertyPath$Repetition;").before a0 Z = true := hw _ (List.mem_of_getElem? (i := 33) rfl)
theorem d1_16 : decode method_2_code 16 = .ok (.areturn, 1) := by decide +kernel
set_option maxRecDepth 65536 in
set_option maxHeartbeats 40000000 in
theorem rm1_17 (l : Launch) (Z : State) (a0 : Array Value) (hw : ∀ d ∈ tables_1, d.before a0 Z = true) (ws : List Jvm.Cond) (a_ONE_OR_MORE : Addr) (h0 : Heap) (n0 : Nat) (Z0 : n0 ≤ h0.size) (f1 : S_1 Z h0 (.ref a_ONE_OR_MORE)) :
    MetFree l M_0 (head1 (Jvm.Cond.code M_0 method_2_code 1 (some (.object "com/example/pathwise/pathwise/sparql/PropertyPath$Repetition")) :: ws) R_0_0_0_0) (fun a U => a = #[(.int 1)] ∧ Z.Warmed39 U.vm ∧ U.heap = h0) (fun _ _ _ _ _ => True) (fun _ U o U' => ∃ v L, o = .returned v ∧ QP (some (.ref a_ONE_OR_MORE)) h0 n0 v U'.heap L ∧ FrameEnd U o U' L R_0_0_0_0.cells R_0_0_0_0.slots) := by
  refine MetFree.of_bodySF (plainFor_of_name pn_com_example_pathwise_pathwise_sparql_RepetitionZeroLengthPinLaw) hisR ?_
  intro p e s m args below meth c s₁ Bd hml0 hP hK
  obtain ⟨rfl, hZ, hh⟩ := hP
  have hx := Bd.exec
  have hby := Bd.bytes
  have hml : c.maxLocals = 1 := hml0
  have hown : s.vm.findClass "com/example/pathwise/pathwise/sparql/RepetitionZeroLengthPinLaw" = some m.cls := findClass_of_methodNamed Bd.named
  have hnm := (name_of_methodNamed Bd.named Bd.method).1
  have X0 : Stand p l e R_0_0_0_0 s m #[(.int 1)] below meth c s₁ [] 0 0 := Stand.of_body Bd
  have e0 : s₁.heap = h0 := by rw [← hh, Bd.state]; rfl
  have N0 := Fr.nil n0
  obtain ⟨T1, X1, e1, st1⟩ := getS2 X0 hx hZ hown (host := "") (Or.inl (tw_33 hw)) Via.refl e0 f1 (g := (mkF m 13 #[.val (.int 1)] [])) rfl (hb hby d1_13)
  obtain ⟨fs, hr, hrun, hended, hW, hsame⟩ := X1.leave (v := (some (.ref a_ONE_OR_MORE))) (fun h => by rw [Bd.returns] at h; cases h)
  refine ⟨_, _, castTop (ef1_I m (1 : Int32)) ?_, hrun, hended, _, _, rfl, ?_, ⟨_, rfl⟩, hW, hsame.mono (by decide) (by decide)⟩
  · show Steps p.tables e below (s₁.setTop (mkF m 0 #[.val (.int 1)] [])) _
    refine XS.iloadN X0.here hx rfl (hb hby d1_0) rfl ?_
    refine XS.ifYes X0.here hx rfl (pc0 := 1) (pc' := 8) rfl (hb hby d1_1) rfl (by decide) (by decide) (by decide) ?_
    refine XS.iloadN X0.here hx rfl (hb hby d1_8) rfl ?_
    refine XS.iconst X0.here hx rfl (hb hby d1_9) ?_
    refine XS.icmpNo X0.here hx rfl (hb hby d1_10) rfl (by decide) ?_
    show Steps p.tables e below (s₁.setTop (mkF m 13 #[.val (.int 1)] [])) _
    refine st1 _ ?_
    show Steps p.tables e below (T1.setTop (mkF m 16 #[.val (.int 1)] [(.ref a_ONE_OR_MORE)])) _
    jvm_step X1.here [X1.here.top, hx, (hb hby d1_16), X1.method', Bd.returns, Value.isRef, FieldType.isReference]
    first | (intro acts; rw [hr _ acts rfl rfl rfl]) | rw [hr _ _ rfl rfl rfl]
    exact Steps.refl _
  · show QP (some (.ref a_ONE_OR_MORE)) h0 n0 _ T1.heap _
    rw [e1]
    exact ⟨rfl, N0, rfl⟩
theorem d2_4 : decode method_3_code 4 = .ok (.iload_n 0, 1) := by decide +kernel
theorem d2_5 : decode method_3_code 5 = .ok (.iconst 2, 1) := by decide +kernel
theorem d2_6 : decode method_3_code 6 = .ok (.if_icmp .ne 7, 3) := by decide +kernel
theorem d2_13 : decode method_3_code 13 = .ok (.iconst 0, 1) := by decide +kernel
set_option maxRecDepth 65536 in
set_option maxHeartbeats 40000000 in
theorem rm2_18 (l : Launch) (Z : State) (a0 : Array Value) (hw : ∀ d ∈ tables_1, d.before a0 Z = true) (ws : List Jvm.Cond)  (h0 : Heap) (n0 : Nat) (Z0 : n0 ≤ h0.size) :
    MetFree l M_1 (head1 (Jvm.Cond.code M_1 method_3_code 1 (some .boolean) :: ws) R_0_0_0_0) (fun a U => a = #[(.int 1)] ∧ Z.Warmed39 U.vm ∧ U.heap = h0) (fun _ _ _ _ _ => True) (fun _ U o U' => ∃ v L, o = .returned v ∧ QP (some (.int 0)) h0 n0 v U'.heap L ∧ FrameEnd U o U' L R_0_0_0_0.cells R_0_0_0_0.slots) := by
  refine MetFree.of_bodySF (plainFor_of_name pn_com_example_pathwise_pathwise_sparql_RepetitionZeroLengthPinLaw) hisR ?_
  intro p e s m args below meth c s₁ Bd hml0 hP hK
  obtain ⟨rfl, hZ, hh⟩ := hP
  have hx := Bd.exec
  have hby := Bd.bytes
  have hml : c.maxLocals = 1 := hml0
  have hown : s.vm.findClass "com/example/pathwise/pathwise/sparql/RepetitionZeroLengthPinLaw" = some m.cls := findClass_of_methodNamed Bd.named
  have hnm := (name_of_methodNamed Bd.named Bd.method).1
  have X0 : Stand p l e R_0_0_0_0 s m #[(.int 1)] below meth c s₁ [] 0 0 := Stand.of_body Bd
  have e0 : s₁.heap = h0 := by rw [← hh, Bd.state]; rfl
  have N0 := Fr.nil n0
  obtain ⟨fs, hr, hrun, hended, hW, hsame⟩ := X0.leave (v := (some (.int 0))) (fun h => by rw [Bd.returns] at h; cases h)
  refine ⟨_, _, castTop (ef2_I m (1 : Int32)) ?_, hrun, hended, _, _, rfl, ?_, ⟨_, rfl⟩, hW, hsame.mono (by decide) (by decide)⟩
  · show Steps p.tables e below (s₁.setTop (mkF m 0 #[.val (.int 1)] [])) _
    refine XS.iloadN X0.here hx rfl (hb hby d2_0) rfl ?_
    refine XS.ifNo X0.here hx rfl (hb hby d2_1) rfl (by decide) ?_
    refine XS.iloadN X0.here hx rfl (hb hby d2_4) rfl ?_
    refine XS.iconst X0.here hx rfl (hb hby d2_5) ?_
    refine XS.icmpYes X0.here hx rfl (pc0 := 6) (pc' := 13) rfl (hb hby d2_6) rfl (by decide) (by decide) (by decide) ?_
    show Steps p.tables e below (s₁.setTop (mkF m 13 #[.val (.int 1)] [])) _
    refine XS.iconst X0.here hx rfl (hb hby d2_13) ?_
    show Steps p.tables e below (s₁.setTop (mkF m 14 #[.val (.int 1)] [(.int 0)])) _
    exact retN X0 hx (t := .boolean) Bd.returns (by simp) (hb hby d2_14) hr
  · show QP (some (.int 0)) h0 n0 _ s₁.heap _
    rw [e0]
    exact ⟨rfl, N0, rfl⟩
theorem d3_11 : decode prog_118_method_4_code 11 = .ok (.iconst 0, 1) := by decide +kernel
set_option maxRecDepth 65536 in
set_option maxHeartbeats 40000000 in
theorem rm3_19 (l : Launch) (Z : State) (a0 : Array Value) (hw : ∀ d ∈ tables_1, d.before a0 Z = true) (ws : List Jvm.Cond) (a_ONE_OR_MORE : Addr) (h0 : Heap) (n0 : Nat) (Z0 : n0 ≤ h0.size) (f1 : S_1 Z h0 (.ref a_ONE_OR_MORE)) :
    MetFree l M_2 (head1 (Jvm.Cond.code M_2 prog_118_method_4_code 1 (some .boolean) :: ws) R_0_0_0_0) (fun a U => a = #[(.ref a_ONE_OR_MORE)] ∧ Z.Warmed39 U.vm ∧ U.heap = h0) (fun _ _ _ _ _ => True) (fun _ U o U' => ∃ v L, o = .returned v ∧ QP (some (.int 0)) h0 n0 v U'.heap L ∧ FrameEnd U o U' L R_0_0_0_0.cells R_0_0_0_0.slots) := by
  refine MetFree.of_bodySF (plainFor_of_name pn_com_example_pathwise_pathwise_sparql_PropertyPath_Repetition) hisR ?_
  intro p e s m args below meth c s₁ Bd hml0 hP hK
  obtain ⟨rfl, hZ, hh⟩ := hP
  have hx := Bd.exec
  have hby := Bd.bytes
  have hml : c.maxLocals = 1 := hml0
  have hown : s.vm.findClass "com/example/pathwise/pathwise/sparql/PropertyPath$Repetition" = some m.cls := findClass_of_methodNamed Bd.named
  have hnm := (name_of_methodNamed Bd.named Bd.method).1
  have X0 : Stand p l e R_0_0_0_0 s m #[(.ref a_ONE_OR_MORE)] below meth c s₁ [] 0 0 := Stand.of_body Bd
  have e0 : s₁.heap = h0 := by rw [← hh, Bd.state]; rfl
  have N0 := Fr.nil n0
  obtain ⟨T1, X1, e1, st1⟩ := getS2 X0 hx hZ hown (host := "") (Or.inl (tw_16 hw)) Via.refl e0 f1 (g := (mkF m 1 #[.val (.ref a_ONE_OR_MORE)] [(.ref a_ONE_OR_MORE)])) rfl (hb hby d3_1)
  obtain ⟨fs, hr, hrun, hended, hW, hsame⟩ := X1.leave (v := (some (.int 0))) (fun h => by rw [Bd.returns] at h; cases h)
  refine ⟨_, _, castTop (ef3_R m a_ONE_OR_MORE) ?_, hrun, hended, _, _, rfl, ?_, ⟨_, rfl⟩, hW, hsame.mono (by decide) (by decide)⟩
  · show Steps p.tables e below (s₁.setTop (mkF m 0 #[.val (.ref a_ONE_OR_MORE)] [])) _
    refine XS.aloadN X0.here hx rfl (hb hby d3_0) rfl rfl ?_
    show Steps p.tables e below (s₁.setTop (mkF m 1 #[.val (.ref a_ONE_OR_MORE)] [(.ref a_ONE_OR_MORE)])) _
    refine st1 _ ?_
    show Steps p.tables e below (T1.setTop (mkF m 4 #[.val (.ref a_ONE_OR_MORE)] [(.ref a_ONE_OR_MORE), (.ref a_ONE_OR_MORE)])) _
    refine Jvm.RoadKit.acmp (g := (mkF m 4 #[.val (.ref a_ONE_OR_MORE)] [(.ref a_ONE_OR_MORE), (.ref a_ONE_OR_MORE)])) X1 hx rfl rfl rfl (pc0 := 4) (pc' := 11) (same := true) rfl (hb hby d3_4) rfl (decide_eq_true rfl) (by decide) (by decide) ?_
    refine XS.iconst X1.here hx rfl (hb hby d3_11) ?_
    show Steps p.tables e below (T1.setTop (mkF m 12 #[.val (.ref a_ONE_OR_MORE)] [(.int 0)])) _
    exact retN X1 hx (t := .boolean) Bd.returns (by simp) (hb hby d3_12) hr
  · show QP (some (.int 0)) h0 n0 _ T1.heap _
    rw [e1]
    exact ⟨rfl, N0, rfl⟩
set_option maxRecDepth 65536 in
set_option maxHeartbeats 40000000 in
theorem rm4_20 (l : Launch) (Z : State) (a0 : Array Value) (hw : ∀ d ∈ tables_1, d.before a0 Z = true) (ws : List Jvm.Cond) (a_ZERO_OR_MORE : Addr) (a_ONE_OR_MORE : Addr) (a_ZERO_OR_ONE : Addr) (h0 : Heap) (n0 : Nat) (Z0 : n0 ≤ h0.size) (f1 : S_1 Z h0 (.ref a_ONE_OR_MORE)) (f2 : a_ZERO_OR_MORE ≠ a_ONE_OR_MORE) (f3 : E_0 Z h0 a_ZERO_OR_MORE) (f4 : S_2 Z h0 (.ref a_ZERO_OR_ONE)) (f5 : a_ZERO_OR_MORE ≠ a_ZERO_OR_ONE) (f6 : S_0 Z h0 (.ref a_ZERO_OR_MORE)) :
    MetFree l M_4 (head1 (Jvm.Cond.code M_4 prog_118_method_6_code 3 (some (.object "com/example/pathwise/pathwise/sparql/PropertyPath$Repetition")) :: ws) R_1_0_0_12) (fun a U => a = #[(.ref a_ZERO_OR_MORE), (.ref a_ONE_OR_MORE)] ∧ Z.Warmed39 U.vm ∧ U.heap = h0) (fun _ _ _ _ _ => True) (fun _ U o U' => ∃ v L, o = .returned v ∧ QP (some (.ref a_ZERO_OR_MORE)) h0 n0 v U'.heap L ∧ FrameEnd U o U' L R_1_0_0_12.cells R_1_0_0_12.slots) := by
  refine MetFree.of_bodySF (plainFor_of_name pn_com_example_pathwise_pathwise_sparql_PropertyPath_Repetition) hisR ?_
  intro p e s m args below meth c s₁ Bd hml0 hP hK
  obtain ⟨rfl, hZ, hh⟩ := hP
  have hx := Bd.exec
  have hby := Bd.bytes
  have hml : c.maxLocals = 3 := hml0
  have hown : s.vm.findClass "com/example/pathwise/pathwise/sparql/PropertyPath$Repetition" = some m.cls := findClass_of_methodNamed Bd.named
  have hnm := (name_of_methodNamed Bd.named Bd.method).1
  have X0 : Stand p l e R_1_0_0_12 s m #[(.ref a_ZERO_OR_MORE), (.ref a_ONE_OR_MORE)] below meth c s₁ [] 0 0 := Stand.of_body Bd
  have e0 : s₁.heap = h0 := by rw [← hh, Bd.state]; rfl
  have N0 := Fr.nil n0
  -- pc 1: com/example/pathwise/pathwise/sparql/PropertyPath$Repetition.zeroLength
  obtain ⟨cq1, kq1, q1a, q1b, q1c⟩ := isOf hZ e0 f3
  obtain ⟨_, _, ⟨T1, L1, k1, n1⟩, -, X1, ⟨Lc1, hQ1, l1, y1, z1⟩, st1⟩ := X0.virtualBack hx (y := M_2) (z := M_2) hown (mvT hZ (tw_23 hw)) (mvT hZ (tw_12 hw)) (notFace_of_selects (args := #[]) (mvT hZ (tw_14 hw))) (mvT hZ (tw_14 hw)) (mvT hZ (tw_13 hw)) (by decide) (backOf (W := 0) (rm3_13 l Z a0 hw [] a_ZERO_OR_MORE a_ONE_OR_MORE h0 n0 Z0 f1 f2) hZ (tw_15 hw) (tw_6 hw) (by decide) (by decide)) q1a q1c (g := (mkF m 1 #[.val (.ref a_ZERO_OR_MORE), .val (.ref a_ONE_OR_MORE), .unset] [(.ref a_ZERO_OR_MORE)])) rfl (by rw [hml]; rfl) (Steps.refl _) (argsL := []) (rest := []) (lenOf pd_2 rfl) rfl (by show 2 * 0 + _ ≤ _; exact Nat.le_of_eq rfl) (hb hby d4_1) (fun _ _ => ⟨rfl, e0, (by decide : 0 + 0 ≤ _), (by decide : 0 + 0 ≤ _)⟩)
  dsimp only [Pt.U, Pt.locs, Pt.cells, Pt.slots] at X1 l1 y1 z1 st1 hQ1
  subst l1 y1 z1
  obtain ⟨rfl, Nq1, e1⟩ := hQ1
  have N1 := Fr.app N0 Nq1
  -- pc 21: com/example/pathwise/pathwise/sparql/PropertyPath$Repetition.unbounded
  obtain ⟨cq2, kq2, q2a, q2b, q2c⟩ := isOf hZ e1 f3
  obtain ⟨_, _, ⟨T2, L2, k2, n2⟩, -, X2, ⟨Lc2, hQ2, l2, y2, z2⟩, st2⟩ := X1.virtualBack hx (y := M_3) (z := M_3) hown (mvT hZ (tw_24 hw)) (mvT hZ (tw_25 hw)) (notFace_of_selects (args := #[]) (mvT hZ (tw_27 hw))) (mvT hZ (tw_27 hw)) (mvT hZ (tw_26 hw)) (by decide) (backOf (W := 0) (rm5_14 l Z a0 hw [] a_ZERO_OR_MORE a_ZERO_OR_ONE h0 n0 Z0 f4 f5) hZ (tw_28 hw) (tw_6 hw) (by decide) (by decide)) q2a q2c (g := (mkF m 21 #[.val (.ref a_ZERO_OR_MORE), .val (.ref a_ONE_OR_MORE), .val (.int 1)] [(.ref a_ZERO_OR_MORE)])) rfl (by rw [hml]; rfl) (Steps.refl _) (argsL := []) (rest := []) (lenOf pd_2 rfl) rfl (by show 2 * 0 + _ ≤ _; exact Nat.le_of_eq rfl) (hb hby d4_21) (fun _ _ => ⟨rfl, e1, (by decide : 0 + 0 ≤ _), (by decide : 0 + 0 ≤ _)⟩)
  dsimp only [Pt.U, Pt.locs, Pt.cells, Pt.slots] at X2 l2 y2 z2 st2 hQ2
  subst l2 y2 z2
  obtain ⟨rfl, Nq2, e2⟩ := hQ2
  have N2 := Fr.app N1 Nq2
  obtain ⟨T3, X3, e3, st3⟩ := getS2 X2 hx hZ hown (host := "") (Or.inl (tw_31 hw)) Via.refl e2 f6 (g := (mkF m 38 #[.val (.ref a_ZERO_OR_MORE), .val (.ref a_ONE_OR_MORE), .val (.int 1)] [])) rfl (hb hby d4_38)
  obtain ⟨fs, hr, hrun, hended, hW, hsame⟩ := X3.leave (v := (some (.ref a_ZERO_OR_MORE))) (fun h => by rw [Bd.returns] at h; cases h)
  refine ⟨_, _, castTop (ef4_RR m a_ZERO_OR_MORE a_ONE_OR_MORE) ?_, hrun, hended, _, _, rfl, ?_, ⟨_, rfl⟩, hW, hsame.mono (by decide) (by decide)⟩
  · show Steps p.tables e below (s₁.setTop (mkF m 0 #[.val (.ref a_ZERO_OR_MORE), .val (.ref a_ONE_OR_MORE), .unset] [])) _
    refine XS.aloadN X0.here hx rfl (hb hby d4_0) rfl rfl ?_
    show Steps p.tables e below (s₁.setTop (mkF m 1 #[.val (.ref a_ZERO_OR_MORE), .val (.ref a_ONE_OR_MORE), .unset] [(.ref a_ZERO_OR_MORE)])) _
    refine st1.trans ?_
    refine XS.ifYes X1.here hx rfl (pc0 := 4) (pc' := 14) rfl (hb hby d4_4) rfl (by decide) (by decide) (by decide) ?_
    refine XS.iconst X1.here hx rfl (hb hby d4_14) ?_
    refine XS.goto X1.here hx rfl (pc0 := 15) (pc' := 19) rfl (hb hby d4_15) (by decide) (by decide) ?_
    refine XS.istoreN X1.here hx rfl (hb hby d4_19) rfl (l' := #[.val (.ref a_ZERO_OR_MORE), .val (.ref a_ONE_OR_MORE), .val (.int 1)]) rfl ?_
    show Steps p.tables e below (T1.setTop (mkF m 20 #[.val (.ref a_ZERO_OR_MORE), .val (.ref a_ONE_OR_MORE), .val (.int 1)] [])) _
    refine XS.aloadN X1.here hx rfl (hb hby d4_20) rfl rfl ?_
    show Steps p.tables e below (T1.setTop (mkF m 21 #[.val (.ref a_ZERO_OR_MORE), .val (.ref a_ONE_OR_MORE), .val (.int 1)] [(.ref a_ZERO_OR_MORE)])) _
    refine st2.trans ?_
    refine XS.ifYes X2.here hx rfl (pc0 := 24) (pc' := 34) rfl (hb hby d4_24) rfl (by decide) (by decide) (by decide) ?_
    refine XS.iloadN X2.here hx rfl (hb hby d4_34) rfl ?_
    refine XS.ifNo X2.here hx rfl (hb hby d4_35) rfl (by decide) ?_
    show Steps p.tables e below (T2.setTop (mkF m 38 #[.val (.ref a_ZERO_OR_MORE), .val (.ref a_ONE_OR_MORE), .val (.int 1)] [])) _
    refine st3 _ ?_
    refine XS.goto X3.here hx rfl (pc0 := 41) (pc' := 47) rfl (hb hby d4_41) (by decide) (by decide) ?_
    show Steps p.tables e below (T3.setTop (mkF m 47 #[.val (.ref a_ZERO_OR_MORE), .val (.ref a_ONE_OR_MORE), .val (.int 1)] [(.ref a_ZERO_OR_MORE)])) _
    jvm_step X3.here [X3.here.top, hx, (hb hby d4_47), X3.method', Bd.returns, Value.isRef, FieldType.isReference]
    first | (intro acts; rw [hr _ acts rfl rfl rfl]) | rw [hr _ _ rfl rfl rfl]
    exact Steps.refl _
  · show QP (some (.ref a_ZERO_OR_MORE)) h0 n0 _ T3.heap _
    rw [e3]
    exact ⟨rfl, N2, rfl⟩
set_option maxRecDepth 65536 in
set_option maxHeartbeats 40000000 in
theorem rm0_21 (l : Launch) (Z : State) (a0 : Array Value) (hw : ∀ d ∈ tables_1, d.before a0 Z = true) (ws : List Jvm.Cond) (p0 : Int32) (p1 : Int32) (a_ZERO_OR_MORE : Addr) (a_ONE_OR_MORE : Addr) (a_ZERO_OR_ONE : Addr) (h0 : Heap) (n0 : Nat) (Z0 : n0 ≤ h0.size) (f1 : ((p0 &&& (2147483647 : Int32)) % (3 : Int32)) = (0 : Int32)) (f2 : ((p1 &&& (2147483647 : Int32)) % (3 : Int32)) = (1 : Int32)) (f3 : S_0 Z h0 (.ref a_ZERO_OR_MORE)) (f4 : S_1 Z h0 (.ref a_ONE_OR_MORE)) (f5 : a_ZERO_OR_MORE ≠ a_ONE_OR_MORE) (f6 : E_0 Z h0 a_ZERO_OR_MORE) (f7 : E_0 Z h0 a_ONE_OR_MORE) (f8 : S_2 Z h0 (.ref a_ZERO_OR_ONE)) (f9 : a_ZERO_OR_MORE ≠ a_ZERO_OR_ONE) :
    MetFree l x (head1 (Jvm.Cond.code x code maxLocals ret :: ws) room_1) (fun a U => a = #[(.int p0), (.int p1)] ∧ Z.Warmed39 U.vm ∧ U.heap = h0) (fun _ _ _ _ _ => True) (fun _ U o U' => ∃ v L, o = .returned v ∧ QT n0 v U'.heap L ∧ FrameEnd U o U' L room_1.cells room_1.slots) := by
  refine MetFree.of_bodySF (plainFor_of_name pn_com_example_pathwise_pathwise_sparql_RepetitionZeroLengthPinLaw) hisR ?_
  intro p e s m args below meth c s₁ Bd hml0 hP hK
  obtain ⟨rfl, hZ, hh⟩ := hP
  have hx := Bd.exec
  have hby := Bd.bytes
  have hml : c.maxLocals = 8 := hml0
  have hown : s.vm.findClass "com/example/pathwise/pathwise/sparql/RepetitionZeroLengthPinLaw" = some m.cls := findClass_of_methodNamed Bd.named
  have hnm := (name_of_methodNamed Bd.named Bd.method).1
  have X0 : Stand p l e room_1 s m #[(.int p0), (.int p1)] below meth c s₁ [] 0 0 := Stand.of_body Bd
  have e0 : s₁.heap = h0 := by rw [← hh, Bd.state]; rfl
  have N0 := Fr.nil n0
  -- pc 15: com/example/pathwise/pathwise/sparql/RepetitionZeroLengthPinLaw.pick
  obtain ⟨_, _, ⟨T1, L1, k1, n1⟩, -, X1, ⟨Lc1, hQ1, l1, y1, z1⟩, st1⟩ := Jvm.LawKit.callS X0 hx (y := M_0) hown (mvT hZ (tw_1 hw)) (mvT hZ (tw_2 hw)) (mvT hZ (tw_3 hw)) (mvT hZ (tw_4 hw)) (by decide) (backOf (W := 0) (rm1_11 l Z a0 hw [] a_ZERO_OR_MORE h0 n0 Z0 f3) hZ (tw_4 hw) (tw_3 hw) (by decide) (by decide)) (g := (mkF m 15 #[.val (.int p0), .val (.int p1), .val (.int 0), .val (.int 1), .unset, .unset, .unset, .unset] [(.int 0)])) rfl (by rw [hml]; rfl) (argsL := [(.int 0)]) (rest := []) (lenOf pd_0 rfl) rfl (by show 2 * 0 + _ ≤ _; exact Nat.le_of_eq rfl) (hb hby at_15) (fun _ _ => ⟨rfl, e0, (by decide : 0 + 0 ≤ _), (by decide : 0 + 0 ≤ _)⟩)
  dsimp only [Pt.U, Pt.locs, Pt.cells, Pt.slots] at X1 l1 y1 z1 st1 hQ1
  subst l1 y1 z1
  obtain ⟨rfl, Nq1, e1⟩ := hQ1
  have N1 := Fr.app N0 Nq1
  -- pc 21: com/example/pathwise/pathwise/sparql/RepetitionZeroLengthPinLaw.pick
  obtain ⟨_, _, ⟨T2, L2, k2, n2⟩, -, X2, ⟨Lc2, hQ2, l2, y2, z2⟩, st2⟩ := Jvm.LawKit.callS X1 hx (y := M_0) hown (mvT hZ (tw_1 hw)) (mvT hZ (tw_2 hw)) (mvT hZ (tw_3 hw)) (mvT hZ (tw_4 hw)) (by decide) (backOf (W := 0) (rm1_17 l Z a0 hw [] a_ONE_OR_MORE h0 n0 Z0 f4) hZ (tw_4 hw) (tw_3 hw) (by decide) (by decide)) (g := (mkF m 21 #[.val (.int p0), .val (.int p1), .val (.int 0), .val (.int 1), .val (.ref a_ZERO_OR_MORE), .unset, .unset, .unset] [(.int 1)])) rfl (by rw [hml]; rfl) (argsL := [(.int 1)]) (rest := []) (lenOf pd_0 rfl) rfl (by show 2 * 0 + _ ≤ _; exact Nat.le_of_eq rfl) (hb hby at_21) (fun _ _ => ⟨rfl, e1, (by decide : 0 + 0 ≤ _), (by decide : 0 + 0 ≤ _)⟩)
  dsimp only [Pt.U, Pt.locs, Pt.cells, Pt.slots] at X2 l2 y2 z2 st2 hQ2
  subst l2 y2 z2
  obtain ⟨rfl, Nq2, e2⟩ := hQ2
  have N2 := Fr.app N1 Nq2
  -- pc 27: com/example/pathwise/pathwise/sparql/RepetitionZeroLengthPinLaw.expected
  obtain ⟨_, _, ⟨T3, L3, k3, n3⟩, -, X3, ⟨Lc3, hQ3, l3, y3, z3⟩, st3⟩ := Jvm.LawKit.callS X2 hx (y := M_1) hown (mvT hZ (tw_8 hw)) (mvT hZ (tw_9 hw)) (mvT hZ (tw_3 hw)) (mvT hZ (tw_10 hw)) (by decide) (backOf (W := 0) (rm2_12 l Z a0 hw []  h0 n0 Z0 ) hZ (tw_10 hw) (tw_3 hw) (by decide) (by decide)) (g := (mkF m 27 #[.val (.int p0), .val (.int p1), .val (.int 0), .val (.int 1), .val (.ref a_ZERO_OR_MORE), .val (.ref a_ONE_OR_MORE), .unset, .unset] [(.int 0)])) rfl (by rw [hml]; rfl) (argsL := [(.int 0)]) (rest := []) (lenOf pd_1 rfl) rfl (by show 2 * 0 + _ ≤ _; exact Nat.le_of_eq rfl) (hb hby at_27) (fun _ _ => ⟨rfl, e2, (by decide : 0 + 0 ≤ _), (by decide : 0 + 0 ≤ _)⟩)
  dsimp only [Pt.U, Pt.locs, Pt.cells, Pt.slots] at X3 l3 y3 z3 st3 hQ3
  subst l3 y3 z3
  obtain ⟨rfl, Nq3, e3⟩ := hQ3
  have N3 := Fr.app N2 Nq3
  -- pc 33: com/example/pathwise/pathwise/sparql/RepetitionZeroLengthPinLaw.expected
  obtain ⟨_, _, ⟨T4, L4, k4, n4⟩, -, X4, ⟨Lc4, hQ4, l4, y4, z4⟩, st4⟩ := Jvm.LawKit.callS X3 hx (y := M_1) hown (mvT hZ (tw_8 hw)) (mvT hZ (tw_9 hw)) (mvT hZ (tw_3 hw)) (mvT hZ (tw_10 hw)) (by decide) (backOf (W := 0) (rm2_18 l Z a0 hw []  h0 n0 Z0 ) hZ (tw_10 hw) (tw_3 hw) (by decide) (by decide)) (g := (mkF m 33 #[.val (.int p0), .val (.int p1), .val (.int 0), .val (.int 1), .val (.ref a_ZERO_OR_MORE), .val (.ref a_ONE_OR_MORE), .val (.int 1), .unset] [(.int 1)])) rfl (by rw [hml]; rfl) (argsL := [(.int 1)]) (rest := []) (lenOf pd_1 rfl) rfl (by show 2 * 0 + _ ≤ _; exact Nat.le_of_eq rfl) (hb hby at_33) (fun _ _ => ⟨rfl, e3, (by decide : 0 + 0 ≤ _), (by decide : 0 + 0 ≤ _)⟩)
  dsimp only [Pt.U, Pt.locs, Pt.cells, Pt.slots] at X4 l4 y4 z4 st4 hQ4
  subst l4 y4 z4
  obtain ⟨rfl, Nq4, e4⟩ := hQ4
  have N4 := Fr.app N3 Nq4
  -- pc 40: com/example/pathwise/pathwise/sparql/PropertyPath$Repetition.zeroLength
  obtain ⟨cq5, kq5, q5a, q5b, q5c⟩ := isOf hZ e4 f6
  obtain ⟨_, _, ⟨T5, L5, k5, n5⟩, -, X5, ⟨Lc5, hQ5, l5, y5, z5⟩, st5⟩ := X4.virtualBack hx (y := M_2) (z := M_2) hown (mvT hZ (tw_11 hw)) (mvT hZ (tw_12 hw)) (notFace_of_selects (args := #[]) (mvT hZ (tw_14 hw))) (mvT hZ (tw_14 hw)) (mvT hZ (tw_13 hw)) (by decide) (backOf (W := 0) (rm3_13 l Z a0 hw [] a_ZERO_OR_MORE a_ONE_OR_MORE h0 n0 Z0 f4 f5) hZ (tw_15 hw) (tw_6 hw) (by decide) (by decide)) q5a q5c (g := (mkF m 40 #[.val (.int p0), .val (.int p1), .val (.int 0), .val (.int 1), .val (.ref a_ZERO_OR_MORE), .val (.ref a_ONE_OR_MORE), .val (.int 1), .val (.int 0)] [(.ref a_ZERO_OR_MORE)])) rfl (by rw [hml]; rfl) (Steps.refl _) (argsL := []) (rest := []) (lenOf pd_2 rfl) rfl (by show 2 * 0 + _ ≤ _; exact Nat.le_of_eq rfl) (hb hby at_40) (fun _ _ => ⟨rfl, e4, (by decide : 0 + 0 ≤ _), (by decide : 0 + 0 ≤ _)⟩)
  dsimp only [Pt.U, Pt.locs, Pt.cells, Pt.slots] at X5 l5 y5 z5 st5 hQ5
  subst l5 y5 z5
  obtain ⟨rfl, Nq5, e5⟩ := hQ5
  have N5 := Fr.app N4 Nq5
  -- pc 52: com/example/pathwise/pathwise/sparql/PropertyPath$Repetition.zeroLength
  obtain ⟨cq6, kq6, q6a, q6b, q6c⟩ := isOf hZ e5 f7
  obtain ⟨_, _, ⟨T6, L6, k6, n6⟩, -, X6, ⟨Lc6, hQ6, l6, y6, z6⟩, st6⟩ := X5.virtualBack hx (y := M_2) (z := M_2) hown (mvT hZ (tw_11 hw)) (mvT hZ (tw_12 hw)) (notFace_of_selects (args := #[]) (mvT hZ (tw_14 hw))) (mvT hZ (tw_14 hw)) (mvT hZ (tw_13 hw)) (by decide) (backOf (W := 0) (rm3_19 l Z a0 hw [] a_ONE_OR_MORE h0 n0 Z0 f4) hZ (tw_15 hw) (tw_6 hw) (by decide) (by decide)) q6a q6c (g := (mkF m 52 #[.val (.int p0), .val (.int p1), .val (.int 0), .val (.int 1), .val (.ref a_ZERO_OR_MORE), .val (.ref a_ONE_OR_MORE), .val (.int 1), .val (.int 0)] [(.ref a_ONE_OR_MORE)])) rfl (by rw [hml]; rfl) (Steps.refl _) (argsL := []) (rest := []) (lenOf pd_2 rfl) rfl (by show 2 * 0 + _ ≤ _; exact Nat.le_of_eq rfl) (hb hby at_52) (fun _ _ => ⟨rfl, e5, (by decide : 0 + 0 ≤ _), (by decide : 0 + 0 ≤ _)⟩)
  dsimp only [Pt.U, Pt.locs, Pt.cells, Pt.slots] at X6 l6 y6 z6 st6 hQ6
  subst l6 y6 z6
  obtain ⟨rfl, Nq6, e6⟩ := hQ6
  have N6 := Fr.app N5 Nq6
  -- pc 66: com/example/pathwise/pathwise/sparql/PropertyPath$Repetition.around
  obtain ⟨cq7, kq7, q7a, q7b, q7c⟩ := isOf hZ e6 f6
  obtain ⟨_, _, ⟨T7, L7, k7, n7⟩, -, X7, ⟨Lc7, hQ7, l7, y7, z7⟩, st7⟩ := X6.virtualBack hx (y := M_4) (z := M_4) hown (mvT hZ (tw_18 hw)) (mvT hZ (tw_19 hw)) (notFace_of_selects (args := #[]) (mvT hZ (tw_21 hw))) (mvT hZ (tw_21 hw)) (mvT hZ (tw_20 hw)) (by decide) (backOf (W := 0) (rm4_20 l Z a0 hw [] a_ZERO_OR_MORE a_ONE_OR_MORE a_ZERO_OR_ONE h0 n0 Z0 f4 f5 f6 f8 f9 f3) hZ (tw_22 hw) (tw_6 hw) (by decide) (by decide)) q7a q7c (g := (mkF m 66 #[.val (.int p0), .val (.int p1), .val (.int 0), .val (.int 1), .val (.ref a_ZERO_OR_MORE), .val (.ref a_ONE_OR_MORE), .val (.int 1), .val (.int 0)] [(.ref a_ONE_OR_MORE), (.ref a_ZERO_OR_MORE)])) rfl (by rw [hml]; rfl) (Steps.refl _) (argsL := [(.ref a_ONE_OR_MORE)]) (rest := []) (lenOf pd_3 rfl) rfl (by show 2 * 0 + _ ≤ _; exact Nat.le_of_eq rfl) (hb hby at_66) (fun _ _ => ⟨rfl, e6, (by decide : 0 + 0 ≤ _), (by decide : 0 + 0 ≤ _)⟩)
  dsimp only [Pt.U, Pt.locs, Pt.cells, Pt.slots] at X7 l7 y7 z7 st7 hQ7
  subst l7 y7 z7
  obtain ⟨rfl, Nq7, e7⟩ := hQ7
  have N7 := Fr.app N6 Nq7
  -- pc 69: com/example/pathwise/pathwise/sparql/PropertyPath$Repetition.zeroLength
  obtain ⟨cq8, kq8, q8a, q8b, q8c⟩ := isOf hZ e7 f6
  obtain ⟨_, _, ⟨T8, L8, k8, n8⟩, -, X8, ⟨Lc8, hQ8, l8, y8, z8⟩, st8⟩ := X7.virtualBack hx (y := M_2) (z := M_2) hown (mvT hZ (tw_11 hw)) (mvT hZ (tw_12 hw)) (notFace_of_selects (args := #[]) (mvT hZ (tw_14 hw))) (mvT hZ (tw_14 hw)) (mvT hZ (tw_13 hw)) (by decide) (backOf (W := 0) (rm3_13 l Z a0 hw [] a_ZERO_OR_MORE a_ONE_OR_MORE h0 n0 Z0 f4 f5) hZ (tw_15 hw) (tw_6 hw) (by decide) (by decide)) q8a q8c (g := (mkF m 69 #[.val (.int p0), .val (.int p1), .val (.int 0), .val (.int 1), .val (.ref a_ZERO_OR_MORE), .val (.ref a_ONE_OR_MORE), .val (.int 1), .val (.int 0)] [(.ref a_ZERO_OR_MORE)])) rfl (by rw [hml]; rfl) (Steps.refl _) (argsL := []) (rest := []) (lenOf pd_2 rfl) rfl (by show 2 * 0 + _ ≤ _; exact Nat.le_of_eq rfl) (hb hby at_69) (fun _ _ => ⟨rfl, e7, (by decide : 0 + 0 ≤ _), (by decide : 0 + 0 ≤ _)⟩)
  dsimp only [Pt.U, Pt.locs, Pt.cells, Pt.slots] at X8 l8 y8 z8 st8 hQ8
  subst l8 y8 z8
  obtain ⟨rfl, Nq8, e8⟩ := hQ8
  have N8 := Fr.app N7 Nq8
  obtain ⟨fs, hr, hrun, hended, hW, hsame⟩ := X8.leave (v := (some (.int 1))) (fun h => by rw [Bd.returns] at h; cases h)
  refine ⟨_, _, castTop (ef0_II m p0 p1) ?_, hrun, hended, _, _, rfl, ?_, ⟨_, rfl⟩, hW, hsame.mono (by decide) (by decide)⟩
  · show Steps p.tables e below (s₁.setTop (mkF m 0 #[.val (.int p0), .val (.int p1), .unset, .unset, .unset, .unset, .unset, .unset] [])) _
    refine XS.iloadN X0.here hx rfl (hb hby at_0) rfl ?_
    show Steps p.tables e below (s₁.setTop (mkF m 1 #[.val (.int p0), .val (.int p1), .unset, .unset, .unset, .unset, .unset, .unset] [(.int p0)])) _
    refine X0.ldcInt hx hown (mvT hZ (tw_0 hw)) (g := (mkF m 1 #[.val (.int p0), .val (.int p1), .unset, .unset, .unset, .unset, .unset, .unset] [(.int p0)])) rfl (hb hby at_1) _ ?_
    show Steps p.tables e below (s₁.setTop (mkF m 3 #[.val (.int p0), .val (.int p1), .unset, .unset, .unset, .unset, .unset, .unset] [(.int 2147483647), (.int p0)])) _
    refine XS.iand X0.here hx rfl (hb hby at_3) rfl ?_
    refine XS.iconst X0.here hx rfl (hb hby at_4) ?_
    show Steps p.tables e below (s₁.setTop (mkF m 5 #[.val (.int p0), .val (.int p1), .unset, .unset, .unset, .unset, .unset, .unset] [(.int 3), (.int (p0 &&& (2147483647 : Int32)))])) _
    refine iremM X0 hx rfl (hb hby at_5) rfl (by decide) ?_
    show Steps p.tables e below (s₁.setTop (mkF m 6 #[.val (.int p0), .val (.int p1), .unset, .unset, .unset, .unset, .unset, .unset] [(.int ((p0 &&& (2147483647 : Int32)) % (3 : Int32)))])) _
    rw [f1]
    refine XS.istoreN X0.here hx rfl (hb hby at_6) rfl (l' := #[.val (.int p0), .val (.int p1), .val (.int 0), .unset, .unset, .unset, .unset, .unset]) rfl ?_
    refine XS.iloadN X0.here hx rfl (hb hby at_7) rfl ?_
    show Steps p.tables e below (s₁.setTop (mkF m 8 #[.val (.int p0), .val (.int p1), .val (.int 0), .unset, .unset, .unset, .unset, .unset] [(.int p1)])) _
    refine X0.ldcInt hx hown (mvT hZ (tw_0 hw)) (g := (mkF m 8 #[.val (.int p0), .val (.int p1), .val (.int 0), .unset, .unset, .unset, .unset, .unset] [(.int p1)])) rfl (hb hby at_8) _ ?_
    show Steps p.tables e below (s₁.setTop (mkF m 10 #[.val (.int p0), .val (.int p1), .val (.int 0), .unset, .unset, .unset, .unset, .unset] [(.int 2147483647), (.int p1)])) _
    refine XS.iand X0.here hx rfl (hb hby at_10) rfl ?_
    refine XS.iconst X0.here hx rfl (hb hby at_11) ?_
    show Steps p.tables e below (s₁.setTop (mkF m 12 #[.val (.int p0), .val (.int p1), .val (.int 0), .unset, .unset, .unset, .unset, .unset] [(.int 3), (.int (p1 &&& (2147483647 : Int32)))])) _
    refine iremM X0 hx rfl (hb hby at_12) rfl (by decide) ?_
    show Steps p.tables e below (s₁.setTop (mkF m 13 #[.val (.int p0), .val (.int p1), .val (.int 0), .unset, .unset, .unset, .unset, .unset] [(.int ((p1 &&& (2147483647 : Int32)) % (3 : Int32)))])) _
    rw [f2]
    refine XS.istoreN X0.here hx rfl (hb hby at_13) rfl (l' := #[.val (.int p0), .val (.int p1), .val (.int 0), .val (.int 1), .unset, .unset, .unset, .unset]) rfl ?_
    refine XS.iloadN X0.here hx rfl (hb hby at_14) rfl ?_
    show Steps p.tables e below (s₁.setTop (mkF m 15 #[.val (.int p0), .val (.int p1), .val (.int 0), .val (.int 1), .unset, .unset, .unset, .unset] [(.int 0)])) _
    refine st1 _ ?_
    refine XS.astore X1.here hx rfl (hb hby at_18) rfl rfl (l' := #[.val (.int p0), .val (.int p1), .val (.int 0), .val (.int 1), .val (.ref a_ZERO_OR_MORE), .unset, .unset, .unset]) rfl ?_
    refine XS.iloadN X1.here hx rfl (hb hby at_20) rfl ?_
    show Steps p.tables e below (T1.setTop (mkF m 21 #[.val (.int p0), .val (.int p1), .val (.int 0), .val (.int 1), .val (.ref a_ZERO_OR_MORE), .unset, .unset, .unset] [(.int 1)])) _
    refine st2 _ ?_
    refine XS.astore X2.here hx rfl (hb hby at_24) rfl rfl (l' := #[.val (.int p0), .val (.int p1), .val (.int 0), .val (.int 1), .val (.ref a_ZERO_OR_MORE), .val (.ref a_ONE_OR_MORE), .unset, .unset]) rfl ?_
    refine XS.iloadN X2.here hx rfl (hb hby at_26) rfl ?_
    show Steps p.tables e below (T2.setTop (mkF m 27 #[.val (.int p0), .val (.int p1), .val (.int 0), .val (.int 1), .val (.ref a_ZERO_OR_MORE), .val (.ref a_ONE_OR_MORE), .unset, .unset] [(.int 0)])) _
    refine st3 _ ?_
    refine XS.istore X3.here hx rfl (hb hby at_30) rfl (l' := #[.val (.int p0), .val (.int p1), .val (.int 0), .val (.int 1), .val (.ref a_ZERO_OR_MORE), .val (.ref a_ONE_OR_MORE), .val (.int 1), .unset]) rfl ?_
    refine XS.iloadN X3.here hx rfl (hb hby at_32) rfl ?_
    show Steps p.tables e below (T3.setTop (mkF m 33 #[.val (.int p0), .val (.int p1), .val (.int 0), .val (.int 1), .val (.ref a_ZERO_OR_MORE), .val (.ref a_ONE_OR_MORE), .val (.int 1), .unset] [(.int 1)])) _
    refine st4 _ ?_
    refine XS.istore X4.here hx rfl (hb hby at_36) rfl (l' := #[.val (.int p0), .val (.int p1), .val (.int 0), .val (.int 1), .val (.ref a_ZERO_OR_MORE), .val (.ref a_ONE_OR_MORE), .val (.int 1), .val (.int 0)]) rfl ?_
    refine XS.aload X4.here hx rfl (hb hby at_38) rfl rfl ?_
    show Steps p.tables e below (T4.setTop (mkF m 40 #[.val (.int p0), .val (.int p1), .val (.int 0), .val (.int 1), .val (.ref a_ZERO_OR_MORE), .val (.ref a_ONE_OR_MORE), .val (.int 1), .val (.int 0)] [(.ref a_ZERO_OR_MORE)])) _
    refine st5.trans ?_
    refine XS.iload X5.here hx rfl (hb hby at_43) rfl ?_
    refine XS.icmpYes X5.here hx rfl (pc0 := 45) (pc' := 50) rfl (hb hby at_45) rfl (by decide) (by decide) (by decide) ?_
    refine XS.aload X5.here hx rfl (hb hby at_50) rfl rfl ?_
    show Steps p.tables e below (T5.setTop (mkF m 52 #[.val (.int p0), .val (.int p1), .val (.int 0), .val (.int 1), .val (.ref a_ZERO_OR_MORE), .val (.ref a_ONE_OR_MORE), .val (.int 1), .val (.int 0)] [(.ref a_ONE_OR_MORE)])) _
    refine st6.trans ?_
    refine XS.iload X6.here hx rfl (hb hby at_55) rfl ?_
    refine XS.icmpYes X6.here hx rfl (pc0 := 57) (pc' := 62) rfl (hb hby at_57) rfl (by decide) (by decide) (by decide) ?_
    refine XS.aload X6.here hx rfl (hb hby at_62) rfl rfl ?_
    refine XS.aload X6.here hx rfl (hb hby at_64) rfl rfl ?_
    show Steps p.tables e below (T6.setTop (mkF m 66 #[.val (.int p0), .val (.int p1), .val (.int 0), .val (.int 1), .val (.ref a_ZERO_OR_MORE), .val (.ref a_ONE_OR_MORE), .val (.int 1), .val (.int 0)] [(.ref a_ONE_OR_MORE), (.ref a_ZERO_OR_MORE)])) _
    refine st7.trans ?_
    show Steps p.tables e below (T7.setTop (mkF m 69 #[.val (.int p0), .val (.int p1), .val (.int 0), .val (.int 1), .val (.ref a_ZERO_OR_MORE), .val (.ref a_ONE_OR_MORE), .val (.int 1), .val (.int 0)] [(.ref a_ZERO_OR_MORE)])) _
    refine st8.trans ?_
    refine XS.iload X8.here hx rfl (hb hby at_72) rfl ?_
    refine XS.ifYes X8.here hx rfl (pc0 := 74) (pc' := 82) rfl (hb hby at_74) rfl (by decide) (by decide) (by decide) ?_
    refine XS.iconst X8.here hx rfl (hb hby at_82) ?_
    refine XS.goto X8.here hx rfl (pc0 := 83) (pc' := 87) rfl (hb hby at_83) (by decide) (by decide) ?_
    show Steps p.tables e below (T8.setTop (mkF m 87 #[.val (.int p0), .val (.int p1), .val (.int 0), .val (.int 1), .val (.ref a_ZERO_OR_MORE), .val (.ref a_ONE_OR_MORE), .val (.int 1), .val (.int 0)] [(.int 1), (.int 1)])) _
    refine XS.icmpNo X8.here hx rfl (hb hby at_87) rfl (by decide) ?_
    refine XS.iconst X8.here hx rfl (hb hby at_90) ?_
    refine XS.goto X8.here hx rfl (pc0 := 91) (pc' := 95) rfl (hb hby at_91) (by decide) (by decide) ?_
    show Steps p.tables e below (T8.setTop (mkF m 95 #[.val (.int p0), .val (.int p1), .val (.int 0), .val (.int 1), .val (.ref a_ZERO_OR_MORE), .val (.ref a_ONE_OR_MORE), .val (.int 1), .val (.int 0)] [(.int 1)])) _
    exact retN X8 hx (t := .boolean) Bd.returns (by simp) (hb hby at_95) hr
  · show QT n0 _ T8.heap _
    rw [e8]
    exact ⟨rfl, N8⟩
theorem d1_17 : decode method_2_code 17 = .ok (.getstatic 16, 3) := by decide +kernel
theorem tw_32 {a0 : Array Value} {Z : State} (hw : ∀ d ∈ tables_1, d.before a0 Z = true) : (Jvm.Cond.fieldLink "com/example/pathwise/pathwise/sparql/RepetitionZeroLengthPinLaw" (16 : Nat) "com/example/pathwise/pathwise/sparql/PropertyPath$Repetition" "ZERO_OR_ONE" "Lcom/example/pathwise/pathwise/sparql/PropertyPath$Repetition;").before a0 Z = true := hw _ (List.mem_of_getElem? (i := 32) rfl)
theorem d1_20 : decode method_2_code 20 = .ok (.areturn, 1) := by decide +kernel
set_option maxRecDepth 65536 in
set_option maxHeartbeats 40000000 in
theorem rm1_22 (l : Launch) (Z : State) (a0 : Array Value) (hw : ∀ d ∈ tables_1, d.before a0 Z = true) (ws : List Jvm.Cond) (a_ZERO_OR_ONE : Addr) (h0 : Heap) (n0 : Nat) (Z0 : n0 ≤ h0.size) (f1 : S_2 Z h0 (.ref a_ZERO_OR_ONE)) :
    MetFree l M_0 (head1 (Jvm.Cond.code M_0 method_2_code 1 (some (.object "com/example/pathwise/pathwise/sparql/PropertyPath$Repetition")) :: ws) R_0_0_0_0) (fun a U => a = #[(.int 2)] ∧ Z.Warmed39 U.vm ∧ U.heap = h0) (fun _ _ _ _ _ => True) (fun _ U o U' => ∃ v L, o = .returned v ∧ QP (some (.ref a_ZERO_OR_ONE)) h0 n0 v U'.heap L ∧ FrameEnd U o U' L R_0_0_0_0.cells R_0_0_0_0.slots) := by
  refine MetFree.of_bodySF (plainFor_of_name pn_com_example_pathwise_pathwise_sparql_RepetitionZeroLengthPinLaw) hisR ?_
  intro p e s m args below meth c s₁ Bd hml0 hP hK
  obtain ⟨rfl, hZ, hh⟩ := hP
  have hx := Bd.exec
  have hby := Bd.bytes
  have hml : c.maxLocals = 1 := hml0
  have hown : s.vm.findClass "com/example/pathwise/pathwise/sparql/RepetitionZeroLengthPinLaw" = some m.cls := findClass_of_methodNamed Bd.named
  have hnm := (name_of_methodNamed Bd.named Bd.method).1
  have X0 : Stand p l e R_0_0_0_0 s m #[(.int 2)] below meth c s₁ [] 0 0 := Stand.of_body Bd
  have e0 : s₁.heap = h0 := by rw [← hh, Bd.state]; rfl
  have N0 := Fr.nil n0
  obtain ⟨T1, X1, e1, st1⟩ := getS2 X0 hx hZ hown (host := "") (Or.inl (tw_32 hw)) Via.refl e0 f1 (g := (mkF m 17 #[.val (.int 2)] [])) rfl (hb hby d1_17)
  obtain ⟨fs, hr, hrun, hended, hW, hsame⟩ := X1.leave (v := (some (.ref a_ZERO_OR_ONE))) (fun h => by rw [Bd.returns] at h; cases h)
  refine ⟨_, _, castTop (ef1_I m (2 : Int32)) ?_, hrun, hended, _, _, rfl, ?_, ⟨_, rfl⟩, hW, hsame.mono (by decide) (by decide)⟩
  · show Steps p.tables e below (s₁.setTop (mkF m 0 #[.val (.int 2)] [])) _
    refine XS.iloadN X0.here hx rfl (hb hby d1_0) rfl ?_
    refine XS.ifYes X0.here hx rfl (pc0 := 1) (pc' := 8) rfl (hb hby d1_1) rfl (by decide) (by decide) (by decide) ?_
    refine XS.iloadN X0.here hx rfl (hb hby d1_8) rfl ?_
    refine XS.iconst X0.here hx rfl (hb hby d1_9) ?_
    refine XS.icmpYes X0.here hx rfl (pc0 := 10) (pc' := 17) rfl (hb hby d1_10) rfl (by decide) (by decide) (by decide) ?_
    show Steps p.tables e below (s₁.setTop (mkF m 17 #[.val (.int 2)] [])) _
    refine st1 _ ?_
    show Steps p.tables e below (T1.setTop (mkF m 20 #[.val (.int 2)] [(.ref a_ZERO_OR_ONE)])) _
    jvm_step X1.here [X1.here.top, hx, (hb hby d1_20), X1.method', Bd.returns, Value.isRef, FieldType.isReference]
    first | (intro acts; rw [hr _ acts rfl rfl rfl]) | rw [hr _ _ rfl rfl rfl]
    exact Steps.refl _
  · show QP (some (.ref a_ZERO_OR_ONE)) h0 n0 _ T1.heap _
    rw [e1]
    exact ⟨rfl, N0, rfl⟩
set_option maxRecDepth 65536 in
set_option maxHeartbeats 40000000 in
theorem rm2_23 (l : Launch) (Z : State) (a0 : Array Value) (hw : ∀ d ∈ tables_1, d.before a0 Z = true) (ws : List Jvm.Cond)  (h0 : Heap) (n0 : Nat) (Z0 : n0 ≤ h0.size) :
    MetFree l M_1 (head1 (Jvm.Cond.code M_1 method_3_code 1 (some .boolean) :: ws) R_0_0_0_0) (fun a U => a = #[(.int 2)] ∧ Z.Warmed39 U.vm ∧ U.heap = h0) (fun _ _ _ _ _ => True) (fun _ U o U' => ∃ v L, o = .returned v ∧ QP (some (.int 1)) h0 n0 v U'.heap L ∧ FrameEnd U o U' L R_0_0_0_0.cells R_0_0_0_0.slots) := by
  refine MetFree.of_bodySF (plainFor_of_name pn_com_example_pathwise_pathwise_sparql_RepetitionZeroLengthPinLaw) hisR ?_
  intro p e s m args below meth c s₁ Bd hml0 hP hK
  obtain ⟨rfl, hZ, hh⟩ := hP
  have hx := Bd.exec
  have hby := Bd.bytes
  have hml : c.maxLocals = 1 := hml0
  have hown : s.vm.findClass "com/example/pathwise/pathwise/sparql/RepetitionZeroLengthPinLaw" = some m.cls := findClass_of_methodNamed Bd.named
  have hnm := (name_of_methodNamed Bd.named Bd.method).1
  have X0 : Stand p l e R_0_0_0_0 s m #[(.int 2)] below meth c s₁ [] 0 0 := Stand.of_body Bd
  have e0 : s₁.heap = h0 := by rw [← hh, Bd.state]; rfl
  have N0 := Fr.nil n0
  obtain ⟨fs, hr, hrun, hended, hW, hsame⟩ := X0.leave (v := (some (.int 1))) (fun h => by rw [Bd.returns] at h; cases h)
  refine ⟨_, _, castTop (ef2_I m (2 : Int32)) ?_, hrun, hended, _, _, rfl, ?_, ⟨_, rfl⟩, hW, hsame.mono (by decide) (by decide)⟩
  · show Steps p.tables e below (s₁.setTop (mkF m 0 #[.val (.int 2)] [])) _
    refine XS.iloadN X0.here hx rfl (hb hby d2_0) rfl ?_
    refine XS.ifNo X0.here hx rfl (hb hby d2_1) rfl (by decide) ?_
    refine XS.iloadN X0.here hx rfl (hb hby d2_4) rfl ?_
    refine XS.iconst X0.here hx rfl (hb hby d2_5) ?_
    refine XS.icmpNo X0.here hx rfl (hb hby d2_6) rfl (by decide) ?_
    show Steps p.tables e below (s₁.setTop (mkF m 9 #[.val (.int 2)] [])) _
    refine XS.iconst X0.here hx rfl (hb hby d2_9) ?_
    refine XS.goto X0.here hx rfl (pc0 := 10) (pc' := 14) rfl (hb hby d2_10) (by decide) (by decide) ?_
    show Steps p.tables e below (s₁.setTop (mkF m 14 #[.val (.int 2)] [(.int 1)])) _
    exact retN X0 hx (t := .boolean) Bd.returns (by simp) (hb hby d2_14) hr
  · show QP (some (.int 1)) h0 n0 _ s₁.heap _
    rw [e0]
    exact ⟨rfl, N0, rfl⟩
set_option maxRecDepth 65536 in
set_option maxHeartbeats 40000000 in
theorem rm3_24 (l : Launch) (Z : State) (a0 : Array Value) (hw : ∀ d ∈ tables_1, d.before a0 Z = true) (ws : List Jvm.Cond) (a_ZERO_OR_ONE : Addr) (a_ONE_OR_MORE : Addr) (h0 : Heap) (n0 : Nat) (Z0 : n0 ≤ h0.size) (f1 : S_1 Z h0 (.ref a_ONE_OR_MORE)) (f2 : a_ONE_OR_MORE ≠ a_ZERO_OR_ONE) :
    MetFree l M_2 (head1 (Jvm.Cond.code M_2 prog_118_method_4_code 1 (some .boolean) :: ws) R_0_0_0_0) (fun a U => a = #[(.ref a_ZERO_OR_ONE)] ∧ Z.Warmed39 U.vm ∧ U.heap = h0) (fun _ _ _ _ _ => True) (fun _ U o U' => ∃ v L, o = .returned v ∧ QP (some (.int 1)) h0 n0 v U'.heap L ∧ FrameEnd U o U' L R_0_0_0_0.cells R_0_0_0_0.slots) := by
  refine MetFree.of_bodySF (plainFor_of_name pn_com_example_pathwise_pathwise_sparql_PropertyPath_Repetition) hisR ?_
  intro p e s m args below meth c s₁ Bd hml0 hP hK
  obtain ⟨rfl, hZ, hh⟩ := hP
  have hx := Bd.exec
  have hby := Bd.bytes
  have hml : c.maxLocals = 1 := hml0
  have hown : s.vm.findClass "com/example/pathwise/pathwise/sparql/PropertyPath$Repetition" = some m.cls := findClass_of_methodNamed Bd.named
  have hnm := (name_of_methodNamed Bd.named Bd.method).1
  have X0 : Stand p l e R_0_0_0_0 s m #[(.ref a_ZERO_OR_ONE)] below meth c s₁ [] 0 0 := Stand.of_body Bd
  have e0 : s₁.heap = h0 := by rw [← hh, Bd.state]; rfl
  have N0 := Fr.nil n0
  obtain ⟨T1, X1, e1, st1⟩ := getS2 X0 hx hZ hown (host := "") (Or.inl (tw_16 hw)) Via.refl e0 f1 (g := (mkF m 1 #[.val (.ref a_ZERO_OR_ONE)] [(.ref a_ZERO_OR_ONE)])) rfl (hb hby d3_1)
  obtain ⟨fs, hr, hrun, hended, hW, hsame⟩ := X1.leave (v := (some (.int 1))) (fun h => by rw [Bd.returns] at h; cases h)
  refine ⟨_, _, castTop (ef3_R m a_ZERO_OR_ONE) ?_, hrun, hended, _, _, rfl, ?_, ⟨_, rfl⟩, hW, hsame.mono (by decide) (by decide)⟩
  · show Steps p.tables e below (s₁.setTop (mkF m 0 #[.val (.ref a_ZERO_OR_ONE)] [])) _
    refine XS.aloadN X0.here hx rfl (hb hby d3_0) rfl rfl ?_
    show Steps p.tables e below (s₁.setTop (mkF m 1 #[.val (.ref a_ZERO_OR_ONE)] [(.ref a_ZERO_OR_ONE)])) _
    refine st1 _ ?_
    show Steps p.tables e below (T1.setTop (mkF m 4 #[.val (.ref a_ZERO_OR_ONE)] [(.ref a_ONE_OR_MORE), (.ref a_ZERO_OR_ONE)])) _
    refine Jvm.RoadKit.acmp (g := (mkF m 4 #[.val (.ref a_ZERO_OR_ONE)] [(.ref a_ONE_OR_MORE), (.ref a_ZERO_OR_ONE)])) X1 hx rfl rfl rfl (pc0 := 4) (pc' := 7) (same := false) rfl (hb hby d3_4) rfl (decide_eq_false fun q => (Ne.symm f2) (Value.ref.inj q)) (by decide) (by decide) ?_
    refine XS.iconst X1.here hx rfl (hb hby d3_7) ?_
    refine XS.goto X1.here hx rfl (pc0 := 8) (pc' := 12) rfl (hb hby d3_8) (by decide) (by decide) ?_
    show Steps p.tables e below (T1.setTop (mkF m 12 #[.val (.ref a_ZERO_OR_ONE)] [(.int 1)])) _
    exact retN X1 hx (t := .boolean) Bd.returns (by simp) (hb hby d3_12) hr
  · show QP (some (.int 1)) h0 n0 _ T1.heap _
    rw [e1]
    exact ⟨rfl, N0, rfl⟩
set_option maxRecDepth 65536 in
set_option maxHeartbeats 40000000 in
theorem rm4_25 (l : Launch) (Z : State) (a0 : Array Value) (hw : ∀ d ∈ tables_1, d.before a0 Z = true) (ws : List Jvm.Cond) (a_ZERO_OR_MORE : Addr) (a_ZERO_OR_ONE : Addr) (a_ONE_OR_MORE : Addr) (h0 : Heap) (n0 : Nat) (Z0 : n0 ≤ h0.size) (f1 : S_1 Z h0 (.ref a_ONE_OR_MORE)) (f2 : a_ZERO_OR_MORE ≠ a_ONE_OR_MORE) (f3 : E_0 Z h0 a_ZERO_OR_MORE) (f4 : S_2 Z h0 (.ref a_ZERO_OR_ONE)) (f5 : a_ZERO_OR_MORE ≠ a_ZERO_OR_ONE) (f6 : S_0 Z h0 (.ref a_ZERO_OR_MORE)) :
    MetFree l M_4 (head1 (Jvm.Cond.code M_4 prog_118_method_6_code 3 (some (.object "com/example/pathwise/pathwise/sparql/PropertyPath$Repetition")) :: ws) R_1_0_0_12) (fun a U => a = #[(.ref a_ZERO_OR_MORE), (.ref a_ZERO_OR_ONE)] ∧ Z.Warmed39 U.vm ∧ U.heap = h0) (fun _ _ _ _ _ => True) (fun _ U o U' => ∃ v L, o = .returned v ∧ QP (some (.ref a_ZERO_OR_MORE)) h0 n0 v U'.heap L ∧ FrameEnd U o U' L R_1_0_0_12.cells R_1_0_0_12.slots) := by
  refine MetFree.of_bodySF (plainFor_of_name pn_com_example_pathwise_pathwise_sparql_PropertyPath_Repetition) hisR ?_
  intro p e s m args below meth c s₁ Bd hml0 hP hK
  obtain ⟨rfl, hZ, hh⟩ := hP
  have hx := Bd.exec
  have hby := Bd.bytes
  have hml : c.maxLocals = 3 := hml0
  have hown : s.vm.findClass "com/example/pathwise/pathwise/sparql/PropertyPath$Repetition" = some m.cls := findClass_of_methodNamed Bd.named
  have hnm := (name_of_methodNamed Bd.named Bd.method).1
  have X0 : Stand p l e R_1_0_0_12 s m #[(.ref a_ZERO_OR_MORE), (.ref a_ZERO_OR_ONE)] below meth c s₁ [] 0 0 := Stand.of_body Bd
  have e0 : s₁.heap = h0 := by rw [← hh, Bd.state]; rfl
  have N0 := Fr.nil n0
  -- pc 1: com/example/pathwise/pathwise/sparql/PropertyPath$Repetition.zeroLength
  obtain ⟨cq1, kq1, q1a, q1b, q1c⟩ := isOf hZ e0 f3
  obtain ⟨_, _, ⟨T1, L1, k1, n1⟩, -, X1, ⟨Lc1, hQ1, l1, y1, z1⟩, st1⟩ := X0.virtualBack hx (y := M_2) (z := M_2) hown (mvT hZ (tw_23 hw)) (mvT hZ (tw_12 hw)) (notFace_of_selects (args := #[]) (mvT hZ (tw_14 hw))) (mvT hZ (tw_14 hw)) (mvT hZ (tw_13 hw)) (by decide) (backOf (W := 0) (rm3_13 l Z a0 hw [] a_ZERO_OR_MORE a_ONE_OR_MORE h0 n0 Z0 f1 f2) hZ (tw_15 hw) (tw_6 hw) (by decide) (by decide)) q1a q1c (g := (mkF m 1 #[.val (.ref a_ZERO_OR_MORE), .val (.ref a_ZERO_OR_ONE), .unset] [(.ref a_ZERO_OR_MORE)])) rfl (by rw [hml]; rfl) (Steps.refl _) (argsL := []) (rest := []) (lenOf pd_2 rfl) rfl (by show 2 * 0 + _ ≤ _; exact Nat.le_of_eq rfl) (hb hby d4_1) (fun _ _ => ⟨rfl, e0, (by decide : 0 + 0 ≤ _), (by decide : 0 + 0 ≤ _)⟩)
  dsimp only [Pt.U, Pt.locs, Pt.cells, Pt.slots] at X1 l1 y1 z1 st1 hQ1
  subst l1 y1 z1
  obtain ⟨rfl, Nq1, e1⟩ := hQ1
  have N1 := Fr.app N0 Nq1
  -- pc 21: com/example/pathwise/pathwise/sparql/PropertyPath$Repetition.unbounded
  obtain ⟨cq2, kq2, q2a, q2b, q2c⟩ := isOf hZ e1 f3
  obtain ⟨_, _, ⟨T2, L2, k2, n2⟩, -, X2, ⟨Lc2, hQ2, l2, y2, z2⟩, st2⟩ := X1.virtualBack hx (y := M_3) (z := M_3) hown (mvT hZ (tw_24 hw)) (mvT hZ (tw_25 hw)) (notFace_of_selects (args := #[]) (mvT hZ (tw_27 hw))) (mvT hZ (tw_27 hw)) (mvT hZ (tw_26 hw)) (by decide) (backOf (W := 0) (rm5_14 l Z a0 hw [] a_ZERO_OR_MORE a_ZERO_OR_ONE h0 n0 Z0 f4 f5) hZ (tw_28 hw) (tw_6 hw) (by decide) (by decide)) q2a q2c (g := (mkF m 21 #[.val (.ref a_ZERO_OR_MORE), .val (.ref a_ZERO_OR_ONE), .val (.int 1)] [(.ref a_ZERO_OR_MORE)])) rfl (by rw [hml]; rfl) (Steps.refl _) (argsL := []) (rest := []) (lenOf pd_2 rfl) rfl (by show 2 * 0 + _ ≤ _; exact Nat.le_of_eq rfl) (hb hby d4_21) (fun _ _ => ⟨rfl, e1, (by decide : 0 + 0 ≤ _), (by decide : 0 + 0 ≤ _)⟩)
  dsimp only [Pt.U, Pt.locs, Pt.cells, Pt.slots] at X2 l2 y2 z2 st2 hQ2
  subst l2 y2 z2
  obtain ⟨rfl, Nq2, e2⟩ := hQ2
  have N2 := Fr.app N1 Nq2
  obtain ⟨T3, X3, e3, st3⟩ := getS2 X2 hx hZ hown (host := "") (Or.inl (tw_31 hw)) Via.refl e2 f6 (g := (mkF m 38 #[.val (.ref a_ZERO_OR_MORE), .val (.ref a_ZERO_OR_ONE), .val (.int 1)] [])) rfl (hb hby d4_38)
  obtain ⟨fs, hr, hrun, hended, hW, hsame⟩ := X3.leave (v := (some (.ref a_ZERO_OR_MORE))) (fun h => by rw [Bd.returns] at h; cases h)
  refine ⟨_, _, castTop (ef4_RR m a_ZERO_OR_MORE a_ZERO_OR_ONE) ?_, hrun, hended, _, _, rfl, ?_, ⟨_, rfl⟩, hW, hsame.mono (by decide) (by decide)⟩
  · show Steps p.tables e below (s₁.setTop (mkF m 0 #[.val (.ref a_ZERO_OR_MORE), .val (.ref a_ZERO_OR_ONE), .unset] [])) _
    refine XS.aloadN X0.here hx rfl (hb hby d4_0) rfl rfl ?_
    show Steps p.tables e below (s₁.setTop (mkF m 1 #[.val (.ref a_ZERO_OR_MORE), .val (.ref a_ZERO_OR_ONE), .unset] [(.ref a_ZERO_OR_MORE)])) _
    refine st1.trans ?_
    refine XS.ifYes X1.here hx rfl (pc0 := 4) (pc' := 14) rfl (hb hby d4_4) rfl (by decide) (by decide) (by decide) ?_
    refine XS.iconst X1.here hx rfl (hb hby d4_14) ?_
    refine XS.goto X1.here hx rfl (pc0 := 15) (pc' := 19) rfl (hb hby d4_15) (by decide) (by decide) ?_
    refine XS.istoreN X1.here hx rfl (hb hby d4_19) rfl (l' := #[.val (.ref a_ZERO_OR_MORE), .val (.ref a_ZERO_OR_ONE), .val (.int 1)]) rfl ?_
    show Steps p.tables e below (T1.setTop (mkF m 20 #[.val (.ref a_ZERO_OR_MORE), .val (.ref a_ZERO_OR_ONE), .val (.int 1)] [])) _
    refine XS.aloadN X1.here hx rfl (hb hby d4_20) rfl rfl ?_
    show Steps p.tables e below (T1.setTop (mkF m 21 #[.val (.ref a_ZERO_OR_MORE), .val (.ref a_ZERO_OR_ONE), .val (.int 1)] [(.ref a_ZERO_OR_MORE)])) _
    refine st2.trans ?_
    refine XS.ifYes X2.here hx rfl (pc0 := 24) (pc' := 34) rfl (hb hby d4_24) rfl (by decide) (by decide) (by decide) ?_
    refine XS.iloadN X2.here hx rfl (hb hby d4_34) rfl ?_
    refine XS.ifNo X2.here hx rfl (hb hby d4_35) rfl (by decide) ?_
    show Steps p.tables e below (T2.setTop (mkF m 38 #[.val (.ref a_ZERO_OR_MORE), .val (.ref a_ZERO_OR_ONE), .val (.int 1)] [])) _
    refine st3 _ ?_
    refine XS.goto X3.here hx rfl (pc0 := 41) (pc' := 47) rfl (hb hby d4_41) (by decide) (by decide) ?_
    show Steps p.tables e below (T3.setTop (mkF m 47 #[.val (.ref a_ZERO_OR_MORE), .val (.ref a_ZERO_OR_ONE), .val (.int 1)] [(.ref a_ZERO_OR_MORE)])) _
    jvm_step X3.here [X3.here.top, hx, (hb hby d4_47), X3.method', Bd.returns, Value.isRef, FieldType.isReference]
    first | (intro acts; rw [hr _ acts rfl rfl rfl]) | rw [hr _ _ rfl rfl rfl]
    exact Steps.refl _
  · show QP (some (.ref a_ZERO_OR_MORE)) h0 n0 _ T3.heap _
    rw [e3]
    exact ⟨rfl, N2, rfl⟩
set_option maxRecDepth 65536 in
set_option maxHeartbeats 40000000 in
theorem rm0_26 (l : Launch) (Z : State) (a0 : Array Value) (hw : ∀ d ∈ tables_1, d.before a0 Z = true) (ws : List Jvm.Cond) (p0 : Int32) (p1 : Int32) (a_ZERO_OR_MORE : Addr) (a_ZERO_OR_ONE : Addr) (a_ONE_OR_MORE : Addr) (h0 : Heap) (n0 : Nat) (Z0 : n0 ≤ h0.size) (f1 : ((p0 &&& (2147483647 : Int32)) % (3 : Int32)) = (0 : Int32)) (f2 : ((p1 &&& (2147483647 : Int32)) % (3 : Int32)) = (2 : Int32)) (f3 : S_0 Z h0 (.ref a_ZERO_OR_MORE)) (f4 : S_2 Z h0 (.ref a_ZERO_OR_ONE)) (f5 : S_1 Z h0 (.ref a_ONE_OR_MORE)) (f6 : a_ZERO_OR_MORE ≠ a_ONE_OR_MORE) (f7 : E_0 Z h0 a_ZERO_OR_MORE) (f8 : a_ONE_OR_MORE ≠ a_ZERO_OR_ONE) (f9 : E_0 Z h0 a_ZERO_OR_ONE) (f10 : a_ZERO_OR_MORE ≠ a_ZERO_OR_ONE) :
    MetFree l x (head1 (Jvm.Cond.code x code maxLocals ret :: ws) room_1) (fun a U => a = #[(.int p0), (.int p1)] ∧ Z.Warmed39 U.vm ∧ U.heap = h0) (fun _ _ _ _ _ => True) (fun _ U o U' => ∃ v L, o = .returned v ∧ QT n0 v U'.heap L ∧ FrameEnd U o U' L room_1.cells room_1.slots) := by
  refine MetFree.of_bodySF (plainFor_of_name pn_com_example_pathwise_pathwise_sparql_RepetitionZeroLengthPinLaw) hisR ?_
  intro p e s m args below meth c s₁ Bd hml0 hP hK
  obtain ⟨rfl, hZ, hh⟩ := hP
  have hx := Bd.exec
  have hby := Bd.bytes
  have hml : c.maxLocals = 8 := hml0
  have hown : s.vm.findClass "com/example/pathwise/pathwise/sparql/RepetitionZeroLengthPinLaw" = some m.cls := findClass_of_methodNamed Bd.named
  have hnm := (name_of_methodNamed Bd.named Bd.method).1
  have X0 : Stand p l e room_1 s m #[(.int p0), (.int p1)] below meth c s₁ [] 0 0 := Stand.of_body Bd
  have e0 : s₁.heap = h0 := by rw [← hh, Bd.state]; rfl
  have N0 := Fr.nil n0
  -- pc 15: com/example/pathwise/pathwise/sparql/RepetitionZeroLengthPinLaw.pick
  obtain ⟨_, _, ⟨T1, L1, k1, n1⟩, -, X1, ⟨Lc1, hQ1, l1, y1, z1⟩, st1⟩ := Jvm.LawKit.callS X0 hx (y := M_0) hown (mvT hZ (tw_1 hw)) (mvT hZ (tw_2 hw)) (mvT hZ (tw_3 hw)) (mvT hZ (tw_4 hw)) (by decide) (backOf (W := 0) (rm1_11 l Z a0 hw [] a_ZERO_OR_MORE h0 n0 Z0 f3) hZ (tw_4 hw) (tw_3 hw) (by decide) (by decide)) (g := (mkF m 15 #[.val (.int p0), .val (.int p1), .val (.int 0), .val (.int 2), .unset, .unset, .unset, .unset] [(.int 0)])) rfl (by rw [hml]; rfl) (argsL := [(.int 0)]) (rest := []) (lenOf pd_0 rfl) rfl (by show 2 * 0 + _ ≤ _; exact Nat.le_of_eq rfl) (hb hby at_15) (fun _ _ => ⟨rfl, e0, (by decide : 0 + 0 ≤ _), (by decide : 0 + 0 ≤ _)⟩)
  dsimp only [Pt.U, Pt.locs, Pt.cells, Pt.slots] at X1 l1 y1 z1 st1 hQ1
  subst l1 y1 z1
  obtain ⟨rfl, Nq1, e1⟩ := hQ1
  have N1 := Fr.app N0 Nq1
  -- pc 21: com/example/pathwise/pathwise/sparql/RepetitionZeroLengthPinLaw.pick
  obtain ⟨_, _, ⟨T2, L2, k2, n2⟩, -, X2, ⟨Lc2, hQ2, l2, y2, z2⟩, st2⟩ := Jvm.LawKit.callS X1 hx (y := M_0) hown (mvT hZ (tw_1 hw)) (mvT hZ (tw_2 hw)) (mvT hZ (tw_3 hw)) (mvT hZ (tw_4 hw)) (by decide) (backOf (W := 0) (rm1_22 l Z a0 hw [] a_ZERO_OR_ONE h0 n0 Z0 f4) hZ (tw_4 hw) (tw_3 hw) (by decide) (by decide)) (g := (mkF m 21 #[.val (.int p0), .val (.int p1), .val (.int 0), .val (.int 2), .val (.ref a_ZERO_OR_MORE), .unset, .unset, .unset] [(.int 2)])) rfl (by rw [hml]; rfl) (argsL := [(.int 2)]) (rest := []) (lenOf pd_0 rfl) rfl (by show 2 * 0 + _ ≤ _; exact Nat.le_of_eq rfl) (hb hby at_21) (fun _ _ => ⟨rfl, e1, (by decide : 0 + 0 ≤ _), (by decide : 0 + 0 ≤ _)⟩)
  dsimp only [Pt.U, Pt.locs, Pt.cells, Pt.slots] at X2 l2 y2 z2 st2 hQ2
  subst l2 y2 z2
  obtain ⟨rfl, Nq2, e2⟩ := hQ2
  have N2 := Fr.app N1 Nq2
  -- pc 27: com/example/pathwise/pathwise/sparql/RepetitionZeroLengthPinLaw.expected
  obtain ⟨_, _, ⟨T3, L3, k3, n3⟩, -, X3, ⟨Lc3, hQ3, l3, y3, z3⟩, st3⟩ := Jvm.LawKit.callS X2 hx (y := M_1) hown (mvT hZ (tw_8 hw)) (mvT hZ (tw_9 hw)) (mvT hZ (tw_3 hw)) (mvT hZ (tw_10 hw)) (by decide) (backOf (W := 0) (rm2_12 l Z a0 hw []  h0 n0 Z0 ) hZ (tw_10 hw) (tw_3 hw) (by decide) (by decide)) (g := (mkF m 27 #[.val (.int p0), .val (.int p1), .val (.int 0), .val (.int 2), .val (.ref a_ZERO_OR_MORE), .val (.ref a_ZERO_OR_ONE), .unset, .unset] [(.int 0)])) rfl (by rw [hml]; rfl) (argsL := [(.int 0)]) (rest := []) (lenOf pd_1 rfl) rfl (by show 2 * 0 + _ ≤ _; exact Nat.le_of_eq rfl) (hb hby at_27) (fun _ _ => ⟨rfl, e2, (by decide : 0 + 0 ≤ _), (by decide : 0 + 0 ≤ _)⟩)
  dsimp only [Pt.U, Pt.locs, Pt.cells, Pt.slots] at X3 l3 y3 z3 st3 hQ3
  subst l3 y3 z3
  obtain ⟨rfl, Nq3, e3⟩ := hQ3
  have N3 := Fr.app N2 Nq3
  -- pc 33: com/example/pathwise/pathwise/sparql/RepetitionZeroLengthPinLaw.expected
  obtain ⟨_, _, ⟨T4, L4, k4, n4⟩, -, X4, ⟨Lc4, hQ4, l4, y4, z4⟩, st4⟩ := Jvm.LawKit.callS X3 hx (y := M_1) hown (mvT hZ (tw_8 hw)) (mvT hZ (tw_9 hw)) (mvT hZ (tw_3 hw)) (mvT hZ (tw_10 hw)) (by decide) (backOf (W := 0) (rm2_23 l Z a0 hw []  h0 n0 Z0 ) hZ (tw_10 hw) (tw_3 hw) (by decide) (by decide)) (g := (mkF m 33 #[.val (.int p0), .val (.int p1), .val (.int 0), .val (.int 2), .val (.ref a_ZERO_OR_MORE), .val (.ref a_ZERO_OR_ONE), .val (.int 1), .unset] [(.int 2)])) rfl (by rw [hml]; rfl) (argsL := [(.int 2)]) (rest := []) (lenOf pd_1 rfl) rfl (by show 2 * 0 + _ ≤ _; exact Nat.le_of_eq rfl) (hb hby at_33) (fun _ _ => ⟨rfl, e3, (by decide : 0 + 0 ≤ _), (by decide : 0 + 0 ≤ _)⟩)
  dsimp only [Pt.U, Pt.locs, Pt.cells, Pt.slots] at X4 l4 y4 z4 st4 hQ4
  subst l4 y4 z4
  obtain ⟨rfl, Nq4, e4⟩ := hQ4
  have N4 := Fr.app N3 Nq4
  -- pc 40: com/example/pathwise/pathwise/sparql/PropertyPath$Repetition.zeroLength
  obtain ⟨cq5, kq5, q5a, q5b, q5c⟩ := isOf hZ e4 f7
  obtain ⟨_, _, ⟨T5, L5, k5, n5⟩, -, X5, ⟨Lc5, hQ5, l5, y5, z5⟩, st5⟩ := X4.virtualBack hx (y := M_2) (z := M_2) hown (mvT hZ (tw_11 hw)) (mvT hZ (tw_12 hw)) (notFace_of_selects (args := #[]) (mvT hZ (tw_14 hw))) (mvT hZ (tw_14 hw)) (mvT hZ (tw_13 hw)) (by decide) (backOf (W := 0) (rm3_13 l Z a0 hw [] a_ZERO_OR_MORE a_ONE_OR_MORE h0 n0 Z0 f5 f6) hZ (tw_15 hw) (tw_6 hw) (by decide) (by decide)) q5a q5c (g := (mkF m 40 #[.val (.int p0), .val (.int p1), .val (.int 0), .val (.int 2), .val (.ref a_ZERO_OR_MORE), .val (.ref a_ZERO_OR_ONE), .val (.int 1), .val (.int 1)] [(.ref a_ZERO_OR_MORE)])) rfl (by rw [hml]; rfl) (Steps.refl _) (argsL := []) (rest := []) (lenOf pd_2 rfl) rfl (by show 2 * 0 + _ ≤ _; exact Nat.le_of_eq rfl) (hb hby at_40) (fun _ _ => ⟨rfl, e4, (by decide : 0 + 0 ≤ _), (by decide : 0 + 0 ≤ _)⟩)
  dsimp only [Pt.U, Pt.locs, Pt.cells, Pt.slots] at X5 l5 y5 z5 st5 hQ5
  subst l5 y5 z5
  obtain ⟨rfl, Nq5, e5⟩ := hQ5
  have N5 := Fr.app N4 Nq5
  -- pc 52: com/example/pathwise/pathwise/sparql/PropertyPath$Repetition.zeroLength
  obtain ⟨cq6, kq6, q6a, q6b, q6c⟩ := isOf hZ e5 f9
  obtain ⟨_, _, ⟨T6, L6, k6, n6⟩, -, X6, ⟨Lc6, hQ6, l6, y6, z6⟩, st6⟩ := X5.virtualBack hx (y := M_2) (z := M_2) hown (mvT hZ (tw_11 hw)) (mvT hZ (tw_12 hw)) (notFace_of_selects (args := #[]) (mvT hZ (tw_14 hw))) (mvT hZ (tw_14 hw)) (mvT hZ (tw_13 hw)) (by decide) (backOf (W := 0) (rm3_24 l Z a0 hw [] a_ZERO_OR_ONE a_ONE_OR_MORE h0 n0 Z0 f5 f8) hZ (tw_15 hw) (tw_6 hw) (by decide) (by decide)) q6a q6c (g := (mkF m 52 #[.val (.int p0), .val (.int p1), .val (.int 0), .val (.int 2), .val (.ref a_ZERO_OR_MORE), .val (.ref a_ZERO_OR_ONE), .val (.int 1), .val (.int 1)] [(.ref a_ZERO_OR_ONE)])) rfl (by rw [hml]; rfl) (Steps.refl _) (argsL := []) (rest := []) (lenOf pd_2 rfl) rfl (by show 2 * 0 + _ ≤ _; exact Nat.le_of_eq rfl) (hb hby at_52) (fun _ _ => ⟨rfl, e5, (by decide : 0 + 0 ≤ _), (by decide : 0 + 0 ≤ _)⟩)
  dsimp only [Pt.U, Pt.locs, Pt.cells, Pt.slots] at X6 l6 y6 z6 st6 hQ6
  subst l6 y6 z6
  obtain ⟨rfl, Nq6, e6⟩ := hQ6
  have N6 := Fr.app N5 Nq6
  -- pc 66: com/example/pathwise/pathwise/sparql/PropertyPath$Repetition.around
  obtain ⟨cq7, kq7, q7a, q7b, q7c⟩ := isOf hZ e6 f7
  obtain ⟨_, _, ⟨T7, L7, k7, n7⟩, -, X7, ⟨Lc7, hQ7, l7, y7, z7⟩, st7⟩ := X6.virtualBack hx (y := M_4) (z := M_4) hown (mvT hZ (tw_18 hw)) (mvT hZ (tw_19 hw)) (notFace_of_selects (args := #[]) (mvT hZ (tw_21 hw))) (mvT hZ (tw_21 hw)) (mvT hZ (tw_20 hw)) (by decide) (backOf (W := 0) (rm4_25 l Z a0 hw [] a_ZERO_OR_MORE a_ZERO_OR_ONE a_ONE_OR_MORE h0 n0 Z0 f5 f6 f7 f4 f10 f3) hZ (tw_22 hw) (tw_6 hw) (by decide) (by decide)) q7a q7c (g := (mkF m 66 #[.val (.int p0), .val (.int p1), .val (.int 0), .val (.int 2), .val (.ref a_ZERO_OR_MORE), .val (.ref a_ZERO_OR_ONE), .val (.int 1), .val (.int 1)] [(.ref a_ZERO_OR_ONE), (.ref a_ZERO_OR_MORE)])) rfl (by rw [hml]; rfl) (Steps.refl _) (argsL := [(.ref a_ZERO_OR_ONE)]) (rest := []) (lenOf pd_3 rfl) rfl (by show 2 * 0 + _ ≤ _; exact Nat.le_of_eq rfl) (hb hby at_66) (fun _ _ => ⟨rfl, e6, (by decide : 0 + 0 ≤ _), (by decide : 0 + 0 ≤ _)⟩)
  dsimp only [Pt.U, Pt.locs, Pt.cells, Pt.slots] at X7 l7 y7 z7 st7 hQ7
  subst l7 y7 z7
  obtain ⟨rfl, Nq7, e7⟩ := hQ7
  have N7 := Fr.app N6 Nq7
  -- pc 69: com/example/pathwise/pathwise/sparql/PropertyPath$Repetition.zeroLength
  obtain ⟨cq8, kq8, q8a, q8b, q8c⟩ := isOf hZ e7 f7
  obtain ⟨_, _, ⟨T8, L8, k8, n8⟩, -, X8, ⟨Lc8, hQ8, l8, y8, z8⟩, st8⟩ := X7.virtualBack hx (y := M_2) (z := M_2) hown (mvT hZ (tw_11 hw)) (mvT hZ (tw_12 hw)) (notFace_of_selects (args := #[]) (mvT hZ (tw_14 hw))) (mvT hZ (tw_14 hw)) (mvT hZ (tw_13 hw)) (by decide) (backOf (W := 0) (rm3_13 l Z a0 hw [] a_ZERO_OR_MORE a_ONE_OR_MORE h0 n0 Z0 f5 f6) hZ (tw_15 hw) (tw_6 hw) (by decide) (by decide)) q8a q8c (g := (mkF m 69 #[.val (.int p0), .val (.int p1), .val (.int 0), .val (.int 2), .val (.ref a_ZERO_OR_MORE), .val (.ref a_ZERO_OR_ONE), .val (.int 1), .val (.int 1)] [(.ref a_ZERO_OR_MORE)])) rfl (by rw [hml]; rfl) (Steps.refl _) (argsL := []) (rest := []) (lenOf pd_2 rfl) rfl (by show 2 * 0 + _ ≤ _; exact Nat.le_of_eq rfl) (hb hby at_69) (fun _ _ => ⟨rfl, e7, (by decide : 0 + 0 ≤ _), (by decide : 0 + 0 ≤ _)⟩)
  dsimp only [Pt.U, Pt.locs, Pt.cells, Pt.slots] at X8 l8 y8 z8 st8 hQ8
  subst l8 y8 z8
  obtain ⟨rfl, Nq8, e8⟩ := hQ8
  have N8 := Fr.app N7 Nq8
  obtain ⟨fs, hr, hrun, hended, hW, hsame⟩ := X8.leave (v := (some (.int 1))) (fun h => by rw [Bd.returns] at h; cases h)
  refine ⟨_, _, castTop (ef0_II m p0 p1) ?_, hrun, hended, _, _, rfl, ?_, ⟨_, rfl⟩, hW, hsame.mono (by decide) (by decide)⟩
  · show Steps p.tables e below (s₁.setTop (mkF m 0 #[.val (.int p0), .val (.int p1), .unset, .unset, .unset, .unset, .unset, .unset] [])) _
    refine XS.iloadN X0.here hx rfl (hb hby at_0) rfl ?_
    show Steps p.tables e below (s₁.setTop (mkF m 1 #[.val (.int p0), .val (.int p1), .unset, .unset, .unset, .unset, .unset, .unset] [(.int p0)])) _
    refine X0.ldcInt hx hown (mvT hZ (tw_0 hw)) (g := (mkF m 1 #[.val (.int p0), .val (.int p1), .unset, .unset, .unset, .unset, .unset, .unset] [(.int p0)])) rfl (hb hby at_1) _ ?_
    show Steps p.tables e below (s₁.setTop (mkF m 3 #[.val (.int p0), .val (.int p1), .unset, .unset, .unset, .unset, .unset, .unset] [(.int 2147483647), (.int p0)])) _
    refine XS.iand X0.here hx rfl (hb hby at_3) rfl ?_
    refine XS.iconst X0.here hx rfl (hb hby at_4) ?_
    show Steps p.tables e below (s₁.setTop (mkF m 5 #[.val (.int p0), .val (.int p1), .unset, .unset, .unset, .unset, .unset, .unset] [(.int 3), (.int (p0 &&& (2147483647 : Int32)))])) _
    refine iremM X0 hx rfl (hb hby at_5) rfl (by decide) ?_
    show Steps p.tables e below (s₁.setTop (mkF m 6 #[.val (.int p0), .val (.int p1), .unset, .unset, .unset, .unset, .unset, .unset] [(.int ((p0 &&& (2147483647 : Int32)) % (3 : Int32)))])) _
    rw [f1]
    refine XS.istoreN X0.here hx rfl (hb hby at_6) rfl (l' := #[.val (.int p0), .val (.int p1), .val (.int 0), .unset, .unset, .unset, .unset, .unset]) rfl ?_
    refine XS.iloadN X0.here hx rfl (hb hby at_7) rfl ?_
    show Steps p.tables e below (s₁.setTop (mkF m 8 #[.val (.int p0), .val (.int p1), .val (.int 0), .unset, .unset, .unset, .unset, .unset] [(.int p1)])) _
    refine X0.ldcInt hx hown (mvT hZ (tw_0 hw)) (g := (mkF m 8 #[.val (.int p0), .val (.int p1), .val (.int 0), .unset, .unset, .unset, .unset, .unset] [(.int p1)])) rfl (hb hby at_8) _ ?_
    show Steps p.tables e below (s₁.setTop (mkF m 10 #[.val (.int p0), .val (.int p1), .val (.int 0), .unset, .unset, .unset, .unset, .unset] [(.int 2147483647), (.int p1)])) _
    refine XS.iand X0.here hx rfl (hb hby at_10) rfl ?_
    refine XS.iconst X0.here hx rfl (hb hby at_11) ?_
    show Steps p.tables e below (s₁.setTop (mkF m 12 #[.val (.int p0), .val (.int p1), .val (.int 0), .unset, .unset, .unset, .unset, .unset] [(.int 3), (.int (p1 &&& (2147483647 : Int32)))])) _
    refine iremM X0 hx rfl (hb hby at_12) rfl (by decide) ?_
    show Steps p.tables e below (s₁.setTop (mkF m 13 #[.val (.int p0), .val (.int p1), .val (.int 0), .unset, .unset, .unset, .unset, .unset] [(.int ((p1 &&& (2147483647 : Int32)) % (3 : Int32)))])) _
    rw [f2]
    refine XS.istoreN X0.here hx rfl (hb hby at_13) rfl (l' := #[.val (.int p0), .val (.int p1), .val (.int 0), .val (.int 2), .unset, .unset, .unset, .unset]) rfl ?_
    refine XS.iloadN X0.here hx rfl (hb hby at_14) rfl ?_
    show Steps p.tables e below (s₁.setTop (mkF m 15 #[.val (.int p0), .val (.int p1), .val (.int 0), .val (.int 2), .unset, .unset, .unset, .unset] [(.int 0)])) _
    refine st1 _ ?_
    refine XS.astore X1.here hx rfl (hb hby at_18) rfl rfl (l' := #[.val (.int p0), .val (.int p1), .val (.int 0), .val (.int 2), .val (.ref a_ZERO_OR_MORE), .unset, .unset, .unset]) rfl ?_
    refine XS.iloadN X1.here hx rfl (hb hby at_20) rfl ?_
    show Steps p.tables e below (T1.setTop (mkF m 21 #[.val (.int p0), .val (.int p1), .val (.int 0), .val (.int 2), .val (.ref a_ZERO_OR_MORE), .unset, .unset, .unset] [(.int 2)])) _
    refine st2 _ ?_
    refine XS.astore X2.here hx rfl (hb hby at_24) rfl rfl (l' := #[.val (.int p0), .val (.int p1), .val (.int 0), .val (.int 2), .val (.ref a_ZERO_OR_MORE), .val (.ref a_ZERO_OR_ONE), .unset, .unset]) rfl ?_
    refine XS.iloadN X2.here hx rfl (hb hby at_26) rfl ?_
    show Steps p.tables e below (T2.setTop (mkF m 27 #[.val (.int p0), .val (.int p1), .val (.int 0), .val (.int 2), .val (.ref a_ZERO_OR_MORE), .val (.ref a_ZERO_OR_ONE), .unset, .unset] [(.int 0)])) _
    refine st3 _ ?_
    refine XS.istore X3.here hx rfl (hb hby at_30) rfl (l' := #[.val (.int p0), .val (.int p1), .val (.int 0), .val (.int 2), .val (.ref a_ZERO_OR_MORE), .val (.ref a_ZERO_OR_ONE), .val (.int 1), .unset]) rfl ?_
    refine XS.iloadN X3.here hx rfl (hb hby at_32) rfl ?_
    show Steps p.tables e below (T3.setTop (mkF m 33 #[.val (.int p0), .val (.int p1), .val (.int 0), .val (.int 2), .val (.ref a_ZERO_OR_MORE), .val (.ref a_ZERO_OR_ONE), .val (.int 1), .unset] [(.int 2)])) _
    refine st4 _ ?_
    refine XS.istore X4.here hx rfl (hb hby at_36) rfl (l' := #[.val (.int p0), .val (.int p1), .val (.int 0), .val (.int 2), .val (.ref a_ZERO_OR_MORE), .val (.ref a_ZERO_OR_ONE), .val (.int 1), .val (.int 1)]) rfl ?_
    refine XS.aload X4.here hx rfl (hb hby at_38) rfl rfl ?_
    show Steps p.tables e below (T4.setTop (mkF m 40 #[.val (.int p0), .val (.int p1), .val (.int 0), .val (.int 2), .val (.ref a_ZERO_OR_MORE), .val (.ref a_ZERO_OR_ONE), .val (.int 1), .val (.int 1)] [(.ref a_ZERO_OR_MORE)])) _
    refine st5.trans ?_
    refine XS.iload X5.here hx rfl (hb hby at_43) rfl ?_
    refine XS.icmpYes X5.here hx rfl (pc0 := 45) (pc' := 50) rfl (hb hby at_45) rfl (by decide) (by decide) (by decide) ?_
    refine XS.aload X5.here hx rfl (hb hby at_50) rfl rfl ?_
    show Steps p.tables e below (T5.setTop (mkF m 52 #[.val (.int p0), .val (.int p1), .val (.int 0), .val (.int 2), .val (.ref a_ZERO_OR_MORE), .val (.ref a_ZERO_OR_ONE), .val (.int 1), .val (.int 1)] [(.ref a_ZERO_OR_ONE)])) _
    refine st6.trans ?_
    refine XS.iload X6.here hx rfl (hb hby at_55) rfl ?_
    refine XS.icmpYes X6.here hx rfl (pc0 := 57) (pc' := 62) rfl (hb hby at_57) rfl (by decide) (by decide) (by decide) ?_
    refine XS.aload X6.here hx rfl (hb hby at_62) rfl rfl ?_
    refine XS.aload X6.here hx rfl (hb hby at_64) rfl rfl ?_
    show Steps p.tables e below (T6.setTop (mkF m 66 #[.val (.int p0), .val (.int p1), .val (.int 0), .val (.int 2), .val (.ref a_ZERO_OR_MORE), .val (.ref a_ZERO_OR_ONE), .val (.int 1), .val (.int 1)] [(.ref a_ZERO_OR_ONE), (.ref a_ZERO_OR_MORE)])) _
    refine st7.trans ?_
    show Steps p.tables e below (T7.setTop (mkF m 69 #[.val (.int p0), .val (.int p1), .val (.int 0), .val (.int 2), .val (.ref a_ZERO_OR_MORE), .val (.ref a_ZERO_OR_ONE), .val (.int 1), .val (.int 1)] [(.ref a_ZERO_OR_MORE)])) _
    refine st8.trans ?_
    refine XS.iload X8.here hx rfl (hb hby at_72) rfl ?_
    refine XS.ifYes X8.here hx rfl (pc0 := 74) (pc' := 82) rfl (hb hby at_74) rfl (by decide) (by decide) (by decide) ?_
    refine XS.iconst X8.here hx rfl (hb hby at_82) ?_
    refine XS.goto X8.here hx rfl (pc0 := 83) (pc' := 87) rfl (hb hby at_83) (by decide) (by decide) ?_
    show Steps p.tables e below (T8.setTop (mkF m 87 #[.val (.int p0), .val (.int p1), .val (.int 0), .val (.int 2), .val (.ref a_ZERO_OR_MORE), .val (.ref a_ZERO_OR_ONE), .val (.int 1), .val (.int 1)] [(.int 1), (.int 1)])) _
    refine XS.icmpNo X8.here hx rfl (hb hby at_87) rfl (by decide) ?_
    refine XS.iconst X8.here hx rfl (hb hby at_90) ?_
    refine XS.goto X8.here hx rfl (pc0 := 91) (pc' := 95) rfl (hb hby at_91) (by decide) (by decide) ?_
    show Steps p.tables e below (T8.setTop (mkF m 95 #[.val (.int p0), .val (.int p1), .val (.int 0), .val (.int 2), .val (.ref a_ZERO_OR_MORE), .val (.ref a_ZERO_OR_ONE), .val (.int 1), .val (.int 1)] [(.int 1)])) _
    exact retN X8 hx (t := .boolean) Bd.returns (by simp) (hb hby at_95) hr
  · show QT n0 _ T8.heap _
    rw [e8]
    exact ⟨rfl, N8⟩
theorem d4_7 : decode prog_118_method_6_code 7 = .ok (.aload_n 1, 1) := by decide +kernel
theorem d4_8 : decode prog_118_method_6_code 8 = .ok (.invokevirtual 32, 3) := by decide +kernel
theorem d4_11 : decode prog_118_method_6_code 11 = .ok (.ifCond .eq 7, 3) := by decide +kernel
set_option maxRecDepth 65536 in
set_option maxHeartbeats 40000000 in
theorem rm5_27 (l : Launch) (Z : State) (a0 : Array Value) (hw : ∀ d ∈ tables_1, d.before a0 Z = true) (ws : List Jvm.Cond) (a_ONE_OR_MORE : Addr) (a_ZERO_OR_ONE : Addr) (h0 : Heap) (n0 : Nat) (Z0 : n0 ≤ h0.size) (f1 : S_2 Z h0 (.ref a_ZERO_OR_ONE)) (f2 : a_ONE_OR_MORE ≠ a_ZERO_OR_ONE) :
    MetFree l M_3 (head1 (Jvm.Cond.code M_3 prog_118_method_5_code 1 (some .boolean) :: ws) R_0_0_0_0) (fun a U => a = #[(.ref a_ONE_OR_MORE)] ∧ Z.Warmed39 U.vm ∧ U.heap = h0) (fun _ _ _ _ _ => True) (fun _ U o U' => ∃ v L, o = .returned v ∧ QP (some (.int 1)) h0 n0 v U'.heap L ∧ FrameEnd U o U' L R_0_0_0_0.cells R_0_0_0_0.slots) := by
  refine MetFree.of_bodySF (plainFor_of_name pn_com_example_pathwise_pathwise_sparql_PropertyPath_Repetition) hisR ?_
  intro p e s m args below meth c s₁ Bd hml0 hP hK
  obtain ⟨rfl, hZ, hh⟩ := hP
  have hx := Bd.exec
  have hby := Bd.bytes
  have hml : c.maxLocals = 1 := hml0
  have hown : s.vm.findClass "com/example/pathwise/pathwise/sparql/PropertyPath$Repetition" = some m.cls := findClass_of_methodNamed Bd.named
  have hnm := (name_of_methodNamed Bd.named Bd.method).1
  have X0 : Stand p l e R_0_0_0_0 s m #[(.ref a_ONE_OR_MORE)] below meth c s₁ [] 0 0 := Stand.of_body Bd
  have e0 : s₁.heap = h0 := by rw [← hh, Bd.state]; rfl
  have N0 := Fr.nil n0
  obtain ⟨T1, X1, e1, st1⟩ := getS2 X0 hx hZ hown (host := "") (Or.inl (tw_29 hw)) Via.refl e0 f1 (g := (mkF m 1 #[.val (.ref a_ONE_OR_MORE)] [(.ref a_ONE_OR_MORE)])) rfl (hb hby d5_1)
  obtain ⟨fs, hr, hrun, hended, hW, hsame⟩ := X1.leave (v := (some (.int 1))) (fun h => by rw [Bd.returns] at h; cases h)
  refine ⟨_, _, castTop (ef5_R m a_ONE_OR_MORE) ?_, hrun, hended, _, _, rfl, ?_, ⟨_, rfl⟩, hW, hsame.mono (by decide) (by decide)⟩
  · show Steps p.tables e below (s₁.setTop (mkF m 0 #[.val (.ref a_ONE_OR_MORE)] [])) _
    refine XS.aloadN X0.here hx rfl (hb hby d5_0) rfl rfl ?_
    show Steps p.tables e below (s₁.setTop (mkF m 1 #[.val (.ref a_ONE_OR_MORE)] [(.ref a_ONE_OR_MORE)])) _
    refine st1 _ ?_
    show Steps p.tables e below (T1.setTop (mkF m 4 #[.val (.ref a_ONE_OR_MORE)] [(.ref a_ZERO_OR_ONE), (.ref a_ONE_OR_MORE)])) _
    refine Jvm.RoadKit.acmp (g := (mkF m 4 #[.val (.ref a_ONE_OR_MORE)] [(.ref a_ZERO_OR_ONE), (.ref a_ONE_OR_MORE)])) X1 hx rfl rfl rfl (pc0 := 4) (pc' := 7) (same := false) rfl (hb hby d5_4) rfl (decide_eq_false fun q => f2 (Value.ref.inj q)) (by decide) (by decide) ?_
    refine XS.iconst X1.here hx rfl (hb hby d5_7) ?_
    refine XS.goto X1.here hx rfl (pc0 := 8) (pc' := 12) rfl (hb hby d5_8) (by decide) (by decide) ?_
    show Steps p.tables e below (T1.setTop (mkF m 12 #[.val (.ref a_ONE_OR_MORE)] [(.int 1)])) _
    exact retN X1 hx (t := .boolean) Bd.returns (by simp) (hb hby d5_12) hr
  · show QP (some (.int 1)) h0 n0 _ T1.heap _
    rw [e1]
    exact ⟨rfl, N0, rfl⟩
set_option maxRecDepth 65536 in
set_option maxHeartbeats 40000000 in
theorem rm4_28 (l : Launch) (Z : State) (a0 : Array Value) (hw : ∀ d ∈ tables_1, d.before a0 Z = true) (ws : List Jvm.Cond) (a_ONE_OR_MORE : Addr) (a_ZERO_OR_MORE : Addr) (a_ZERO_OR_ONE : Addr) (h0 : Heap) (n0 : Nat) (Z0 : n0 ≤ h0.size) (f1 : S_1 Z h0 (.ref a_ONE_OR_MORE)) (f2 : E_0 Z h0 a_ONE_OR_MORE) (f3 : a_ZERO_OR_MORE ≠ a_ONE_OR_MORE) (f4 : E_0 Z h0 a_ZERO_OR_MORE) (f5 : S_2 Z h0 (.ref a_ZERO_OR_ONE)) (f6 : a_ONE_OR_MORE ≠ a_ZERO_OR_ONE) (f7 : S_0 Z h0 (.ref a_ZERO_OR_MORE)) :
    MetFree l M_4 (head1 (Jvm.Cond.code M_4 prog_118_method_6_code 3 (some (.object "com/example/pathwise/pathwise/sparql/PropertyPath$Repetition")) :: ws) R_1_0_0_12) (fun a U => a = #[(.ref a_ONE_OR_MORE), (.ref a_ZERO_OR_MORE)] ∧ Z.Warmed39 U.vm ∧ U.heap = h0) (fun _ _ _ _ _ => True) (fun _ U o U' => ∃ v L, o = .returned v ∧ QP (some (.ref a_ZERO_OR_MORE)) h0 n0 v U'.heap L ∧ FrameEnd U o U' L R_1_0_0_12.cells R_1_0_0_12.slots) := by
  refine MetFree.of_bodySF (plainFor_of_name pn_com_example_pathwise_pathwise_sparql_PropertyPath_Repetition) hisR ?_
  intro p e s m args below meth c s₁ Bd hml0 hP hK
  obtain ⟨rfl, hZ, hh⟩ := hP
  have hx := Bd.exec
  have hby := Bd.bytes
  have hml : c.maxLocals = 3 := hml0
  have hown : s.vm.findClass "com/example/pathwise/pathwise/sparql/PropertyPath$Repetition" = some m.cls := findClass_of_methodNamed Bd.named
  have hnm := (name_of_methodNamed Bd.named Bd.method).1
  have X0 : Stand p l e R_1_0_0_12 s m #[(.ref a_ONE_OR_MORE), (.ref a_ZERO_OR_MORE)] below meth c s₁ [] 0 0 := Stand.of_body Bd
  have e0 : s₁.heap = h0 := by rw [← hh, Bd.state]; rfl
  have N0 := Fr.nil n0
  -- pc 1: com/example/pathwise/pathwise/sparql/PropertyPath$Repetition.zeroLength
  obtain ⟨cq1, kq1, q1a, q1b, q1c⟩ := isOf hZ e0 f2
  obtain ⟨_, _, ⟨T1, L1, k1, n1⟩, -, X1, ⟨Lc1, hQ1, l1, y1, z1⟩, st1⟩ := X0.virtualBack hx (y := M_2) (z := M_2) hown (mvT hZ (tw_23 hw)) (mvT hZ (tw_12 hw)) (notFace_of_selects (args := #[]) (mvT hZ (tw_14 hw))) (mvT hZ (tw_14 hw)) (mvT hZ (tw_13 hw)) (by decide) (backOf (W := 0) (rm3_19 l Z a0 hw [] a_ONE_OR_MORE h0 n0 Z0 f1) hZ (tw_15 hw) (tw_6 hw) (by decide) (by decide)) q1a q1c (g := (mkF m 1 #[.val (.ref a_ONE_OR_MORE), .val (.ref a_ZERO_OR_MORE), .unset] [(.ref a_ONE_OR_MORE)])) rfl (by rw [hml]; rfl) (Steps.refl _) (argsL := []) (rest := []) (lenOf pd_2 rfl) rfl (by show 2 * 0 + _ ≤ _; exact Nat.le_of_eq rfl) (hb hby d4_1) (fun _ _ => ⟨rfl, e0, (by decide : 0 + 0 ≤ _), (by decide : 0 + 0 ≤ _)⟩)
  dsimp only [Pt.U, Pt.locs, Pt.cells, Pt.slots] at X1 l1 y1 z1 st1 hQ1
  subst l1 y1 z1
  obtain ⟨rfl, Nq1, e1⟩ := hQ1
  have N1 := Fr.app N0 Nq1
  -- pc 8: com/example/pathwise/pathwise/sparql/PropertyPath$Repetition.zeroLength
  obtain ⟨cq2, kq2, q2a, q2b, q2c⟩ := isOf hZ e1 f4
  obtain ⟨_, _, ⟨T2, L2, k2, n2⟩, -, X2, ⟨Lc2, hQ2, l2, y2, z2⟩, st2⟩ := X1.virtualBack hx (y := M_2) (z := M_2) hown (mvT hZ (tw_23 hw)) (mvT hZ (tw_12 hw)) (notFace_of_selects (args := #[]) (mvT hZ (tw_14 hw))) (mvT hZ (tw_14 hw)) (mvT hZ (tw_13 hw)) (by decide) (backOf (W := 0) (rm3_13 l Z a0 hw [] a_ZERO_OR_MORE a_ONE_OR_MORE h0 n0 Z0 f1 f3) hZ (tw_15 hw) (tw_6 hw) (by decide) (by decide)) q2a q2c (g := (mkF m 8 #[.val (.ref a_ONE_OR_MORE), .val (.ref a_ZERO_OR_MORE), .unset] [(.ref a_ZERO_OR_MORE)])) rfl (by rw [hml]; rfl) (Steps.refl _) (argsL := []) (rest := []) (lenOf pd_2 rfl) rfl (by show 2 * 0 + _ ≤ _; exact Nat.le_of_eq rfl) (hb hby d4_8) (fun _ _ => ⟨rfl, e1, (by decide : 0 + 0 ≤ _), (by decide : 0 + 0 ≤ _)⟩)
  dsimp only [Pt.U, Pt.locs, Pt.cells, Pt.slots] at X2 l2 y2 z2 st2 hQ2
  subst l2 y2 z2
  obtain ⟨rfl, Nq2, e2⟩ := hQ2
  have N2 := Fr.app N1 Nq2
  -- pc 21: com/example/pathwise/pathwise/sparql/PropertyPath$Repetition.unbounded
  obtain ⟨cq3, kq3, q3a, q3b, q3c⟩ := isOf hZ e2 f2
  obtain ⟨_, _, ⟨T3, L3, k3, n3⟩, -, X3, ⟨Lc3, hQ3, l3, y3, z3⟩, st3⟩ := X2.virtualBack hx (y := M_3) (z := M_3) hown (mvT hZ (tw_24 hw)) (mvT hZ (tw_25 hw)) (notFace_of_selects (args := #[]) (mvT hZ (tw_27 hw))) (mvT hZ (tw_27 hw)) (mvT hZ (tw_26 hw)) (by decide) (backOf (W := 0) (rm5_27 l Z a0 hw [] a_ONE_OR_MORE a_ZERO_OR_ONE h0 n0 Z0 f5 f6) hZ (tw_28 hw) (tw_6 hw) (by decide) (by decide)) q3a q3c (g := (mkF m 21 #[.val (.ref a_ONE_OR_MORE), .val (.ref a_ZERO_OR_MORE), .val (.int 1)] [(.ref a_ONE_OR_MORE)])) rfl (by rw [hml]; rfl) (Steps.refl _) (argsL := []) (rest := []) (lenOf pd_2 rfl) rfl (by show 2 * 0 + _ ≤ _; exact Nat.le_of_eq rfl) (hb hby d4_21) (fun _ _ => ⟨rfl, e2, (by decide : 0 + 0 ≤ _), (by decide : 0 + 0 ≤ _)⟩)
  dsimp only [Pt.U, Pt.locs, Pt.cells, Pt.slots] at X3 l3 y3 z3 st3 hQ3
  subst l3 y3 z3
  obtain ⟨rfl, Nq3, e3⟩ := hQ3
  have N3 := Fr.app N2 Nq3
  obtain ⟨T4, X4, e4, st4⟩ := getS2 X3 hx hZ hown (host := "") (Or.inl (tw_31 hw)) Via.refl e3 f7 (g := (mkF m 38 #[.val (.ref a_ONE_OR_MORE), .val (.ref a_ZERO_OR_MORE), .val (.int 1)] [])) rfl (hb hby d4_38)
  obtain ⟨fs, hr, hrun, hended, hW, hsame⟩ := X4.leave (v := (some (.ref a_ZERO_OR_MORE))) (fun h => by rw [Bd.returns] at h; cases h)
  refine ⟨_, _, castTop (ef4_RR m a_ONE_OR_MORE a_ZERO_OR_MORE) ?_, hrun, hended, _, _, rfl, ?_, ⟨_, rfl⟩, hW, hsame.mono (by decide) (by decide)⟩
  · show Steps p.tables e below (s₁.setTop (mkF m 0 #[.val (.ref a_ONE_OR_MORE), .val (.ref a_ZERO_OR_MORE), .unset] [])) _
    refine XS.aloadN X0.here hx rfl (hb hby d4_0) rfl rfl ?_
    show Steps p.tables e below (s₁.setTop (mkF m 1 #[.val (.ref a_ONE_OR_MORE), .val (.ref a_ZERO_OR_MORE), .unset] [(.ref a_ONE_OR_MORE)])) _
    refine st1.trans ?_
    refine XS.ifNo X1.here hx rfl (hb hby d4_4) rfl (by decide) ?_
    refine XS.aloadN X1.here hx rfl (hb hby d4_7) rfl rfl ?_
    show Steps p.tables e below (T1.setTop (mkF m 8 #[.val (.ref a_ONE_OR_MORE), .val (.ref a_ZERO_OR_MORE), .unset] [(.ref a_ZERO_OR_MORE)])) _
    refine st2.trans ?_
    refine XS.ifNo X2.here hx rfl (hb hby d4_11) rfl (by decide) ?_
    refine XS.iconst X2.here hx rfl (hb hby d4_14) ?_
    refine XS.goto X2.here hx rfl (pc0 := 15) (pc' := 19) rfl (hb hby d4_15) (by decide) (by decide) ?_
    refine XS.istoreN X2.here hx rfl (hb hby d4_19) rfl (l' := #[.val (.ref a_ONE_OR_MORE), .val (.ref a_ZERO_OR_MORE), .val (.int 1)]) rfl ?_
    show Steps p.tables e below (T2.setTop (mkF m 20 #[.val (.ref a_ONE_OR_MORE), .val (.ref a_ZERO_OR_MORE), .val (.int 1)] [])) _
    refine XS.aloadN X2.here hx rfl (hb hby d4_20) rfl rfl ?_
    show Steps p.tables e below (T2.setTop (mkF m 21 #[.val (.ref a_ONE_OR_MORE), .val (.ref a_ZERO_OR_MORE), .val (.int 1)] [(.ref a_ONE_OR_MORE)])) _
    refine st3.trans ?_
    refine XS.ifYes X3.here hx rfl (pc0 := 24) (pc' := 34) rfl (hb hby d4_24) rfl (by decide) (by decide) (by decide) ?_
    refine XS.iloadN X3.here hx rfl (hb hby d4_34) rfl ?_
    refine XS.ifNo X3.here hx rfl (hb hby d4_35) rfl (by decide) ?_
    show Steps p.tables e below (T3.setTop (mkF m 38 #[.val (.ref a_ONE_OR_MORE), .val (.ref a_ZERO_OR_MORE), .val (.int 1)] [])) _
    refine st4 _ ?_
    refine XS.goto X4.here hx rfl (pc0 := 41) (pc' := 47) rfl (hb hby d4_41) (by decide) (by decide) ?_
    show Steps p.tables e below (T4.setTop (mkF m 47 #[.val (.ref a_ONE_OR_MORE), .val (.ref a_ZERO_OR_MORE), .val (.int 1)] [(.ref a_ZERO_OR_MORE)])) _
    jvm_step X4.here [X4.here.top, hx, (hb hby d4_47), X4.method', Bd.returns, Value.isRef, FieldType.isReference]
    first | (intro acts; rw [hr _ acts rfl rfl rfl]) | rw [hr _ _ rfl rfl rfl]
    exact Steps.refl _
  · show QP (some (.ref a_ZERO_OR_MORE)) h0 n0 _ T4.heap _
    rw [e4]
    exact ⟨rfl, N3, rfl⟩
set_option maxRecDepth 65536 in
set_option maxHeartbeats 40000000 in
theorem rm0_29 (l : Launch) (Z : State) (a0 : Array Value) (hw : ∀ d ∈ tables_1, d.before a0 Z = true) (ws : List Jvm.Cond) (p0 : Int32) (p1 : Int32) (a_ONE_OR_MORE : Addr) (a_ZERO_OR_MORE : Addr) (a_ZERO_OR_ONE : Addr) (h0 : Heap) (n0 : Nat) (Z0 : n0 ≤ h0.size) (f1 : ((p0 &&& (2147483647 : Int32)) % (3 : Int32)) = (1 : Int32)) (f2 : ((p1 &&& (2147483647 : Int32)) % (3 : Int32)) = (0 : Int32)) (f3 : S_1 Z h0 (.ref a_ONE_OR_MORE)) (f4 : S_0 Z h0 (.ref a_ZERO_OR_MORE)) (f5 : E_0 Z h0 a_ONE_OR_MORE) (f6 : a_ZERO_OR_MORE ≠ a_ONE_OR_MORE) (f7 : E_0 Z h0 a_ZERO_OR_MORE) (f8 : S_2 Z h0 (.ref a_ZERO_OR_ONE)) (f9 : a_ONE_OR_MORE ≠ a_ZERO_OR_ONE) :
    MetFree l x (head1 (Jvm.Cond.code x code maxLocals ret :: ws) room_1) (fun a U => a = #[(.int p0), (.int p1)] ∧ Z.Warmed39 U.vm ∧ U.heap = h0) (fun _ _ _ _ _ => True) (fun _ U o U' => ∃ v L, o = .returned v ∧ QT n0 v U'.heap L ∧ FrameEnd U o U' L room_1.cells room_1.slots) := by
  refine MetFree.of_bodySF (plainFor_of_name pn_com_example_pathwise_pathwise_sparql_RepetitionZeroLengthPinLaw) hisR ?_
  intro p e s m args below meth c s₁ Bd hml0 hP hK
  obtain ⟨rfl, hZ, hh⟩ := hP
  have hx := Bd.exec
  have hby := Bd.bytes
  have hml : c.maxLocals = 8 := hml0
  have hown : s.vm.findClass "com/example/pathwise/pathwise/sparql/RepetitionZeroLengthPinLaw" = some m.cls := findClass_of_methodNamed Bd.named
  have hnm := (name_of_methodNamed Bd.named Bd.method).1
  have X0 : Stand p l e room_1 s m #[(.int p0), (.int p1)] below meth c s₁ [] 0 0 := Stand.of_body Bd
  have e0 : s₁.heap = h0 := by rw [← hh, Bd.state]; rfl
  have N0 := Fr.nil n0
  -- pc 15: com/example/pathwise/pathwise/sparql/RepetitionZeroLengthPinLaw.pick
  obtain ⟨_, _, ⟨T1, L1, k1, n1⟩, -, X1, ⟨Lc1, hQ1, l1, y1, z1⟩, st1⟩ := Jvm.LawKit.callS X0 hx (y := M_0) hown (mvT hZ (tw_1 hw)) (mvT hZ (tw_2 hw)) (mvT hZ (tw_3 hw)) (mvT hZ (tw_4 hw)) (by decide) (backOf (W := 0) (rm1_17 l Z a0 hw [] a_ONE_OR_MORE h0 n0 Z0 f3) hZ (tw_4 hw) (tw_3 hw) (by decide) (by decide)) (g := (mkF m 15 #[.val (.int p0), .val (.int p1), .val (.int 1), .val (.int 0), .unset, .unset, .unset, .unset] [(.int 1)])) rfl (by rw [hml]; rfl) (argsL := [(.int 1)]) (rest := []) (lenOf pd_0 rfl) rfl (by show 2 * 0 + _ ≤ _; exact Nat.le_of_eq rfl) (hb hby at_15) (fun _ _ => ⟨rfl, e0, (by decide : 0 + 0 ≤ _), (by decide : 0 + 0 ≤ _)⟩)
  dsimp only [Pt.U, Pt.locs, Pt.cells, Pt.slots] at X1 l1 y1 z1 st1 hQ1
  subst l1 y1 z1
  obtain ⟨rfl, Nq1, e1⟩ := hQ1
  have N1 := Fr.app N0 Nq1
  -- pc 21: com/example/pathwise/pathwise/sparql/RepetitionZeroLengthPinLaw.pick
  obtain ⟨_, _, ⟨T2, L2, k2, n2⟩, -, X2, ⟨Lc2, hQ2, l2, y2, z2⟩, st2⟩ := Jvm.LawKit.callS X1 hx (y := M_0) hown (mvT hZ (tw_1 hw)) (mvT hZ (tw_2 hw)) (mvT hZ (tw_3 hw)) (mvT hZ (tw_4 hw)) (by decide) (backOf (W := 0) (rm1_11 l Z a0 hw [] a_ZERO_OR_MORE h0 n0 Z0 f4) hZ (tw_4 hw) (tw_3 hw) (by decide) (by decide)) (g := (mkF m 21 #[.val (.int p0), .val (.int p1), .val (.int 1), .val (.int 0), .val (.ref a_ONE_OR_MORE), .unset, .unset, .unset] [(.int 0)])) rfl (by rw [hml]; rfl) (argsL := [(.int 0)]) (rest := []) (lenOf pd_0 rfl) rfl (by show 2 * 0 + _ ≤ _; exact Nat.le_of_eq rfl) (hb hby at_21) (fun _ _ => ⟨rfl, e1, (by decide : 0 + 0 ≤ _), (by decide : 0 + 0 ≤ _)⟩)
  dsimp only [Pt.U, Pt.locs, Pt.cells, Pt.slots] at X2 l2 y2 z2 st2 hQ2
  subst l2 y2 z2
  obtain ⟨rfl, Nq2, e2⟩ := hQ2
  have N2 := Fr.app N1 Nq2
  -- pc 27: com/example/pathwise/pathwise/sparql/RepetitionZeroLengthPinLaw.expected
  obtain ⟨_, _, ⟨T3, L3, k3, n3⟩, -, X3, ⟨Lc3, hQ3, l3, y3, z3⟩, st3⟩ := Jvm.LawKit.callS X2 hx (y := M_1) hown (mvT hZ (tw_8 hw)) (mvT hZ (tw_9 hw)) (mvT hZ (tw_3 hw)) (mvT hZ (tw_10 hw)) (by decide) (backOf (W := 0) (rm2_18 l Z a0 hw []  h0 n0 Z0 ) hZ (tw_10 hw) (tw_3 hw) (by decide) (by decide)) (g := (mkF m 27 #[.val (.int p0), .val (.int p1), .val (.int 1), .val (.int 0), .val (.ref a_ONE_OR_MORE), .val (.ref a_ZERO_OR_MORE), .unset, .unset] [(.int 1)])) rfl (by rw [hml]; rfl) (argsL := [(.int 1)]) (rest := []) (lenOf pd_1 rfl) rfl (by show 2 * 0 + _ ≤ _; exact Nat.le_of_eq rfl) (hb hby at_27) (fun _ _ => ⟨rfl, e2, (by decide : 0 + 0 ≤ _), (by decide : 0 + 0 ≤ _)⟩)
  dsimp only [Pt.U, Pt.locs, Pt.cells, Pt.slots] at X3 l3 y3 z3 st3 hQ3
  subst l3 y3 z3
  obtain ⟨rfl, Nq3, e3⟩ := hQ3
  have N3 := Fr.app N2 Nq3
  -- pc 33: com/example/pathwise/pathwise/sparql/RepetitionZeroLengthPinLaw.expected
  obtain ⟨_, _, ⟨T4, L4, k4, n4⟩, -, X4, ⟨Lc4, hQ4, l4, y4, z4⟩, st4⟩ := Jvm.LawKit.callS X3 hx (y := M_1) hown (mvT hZ (tw_8 hw)) (mvT hZ (tw_9 hw)) (mvT hZ (tw_3 hw)) (mvT hZ (tw_10 hw)) (by decide) (backOf (W := 0) (rm2_12 l Z a0 hw []  h0 n0 Z0 ) hZ (tw_10 hw) (tw_3 hw) (by decide) (by decide)) (g := (mkF m 33 #[.val (.int p0), .val (.int p1), .val (.int 1), .val (.int 0), .val (.ref a_ONE_OR_MORE), .val (.ref a_ZERO_OR_MORE), .val (.int 0), .unset] [(.int 0)])) rfl (by rw [hml]; rfl) (argsL := [(.int 0)]) (rest := []) (lenOf pd_1 rfl) rfl (by show 2 * 0 + _ ≤ _; exact Nat.le_of_eq rfl) (hb hby at_33) (fun _ _ => ⟨rfl, e3, (by decide : 0 + 0 ≤ _), (by decide : 0 + 0 ≤ _)⟩)
  dsimp only [Pt.U, Pt.locs, Pt.cells, Pt.slots] at X4 l4 y4 z4 st4 hQ4
  subst l4 y4 z4
  obtain ⟨rfl, Nq4, e4⟩ := hQ4
  have N4 := Fr.app N3 Nq4
  -- pc 40: com/example/pathwise/pathwise/sparql/PropertyPath$Repetition.zeroLength
  obtain ⟨cq5, kq5, q5a, q5b, q5c⟩ := isOf hZ e4 f5
  obtain ⟨_, _, ⟨T5, L5, k5, n5⟩, -, X5, ⟨Lc5, hQ5, l5, y5, z5⟩, st5⟩ := X4.virtualBack hx (y := M_2) (z := M_2) hown (mvT hZ (tw_11 hw)) (mvT hZ (tw_12 hw)) (notFace_of_selects (args := #[]) (mvT hZ (tw_14 hw))) (mvT hZ (tw_14 hw)) (mvT hZ (tw_13 hw)) (by decide) (backOf (W := 0) (rm3_19 l Z a0 hw [] a_ONE_OR_MORE h0 n0 Z0 f3) hZ (tw_15 hw) (tw_6 hw) (by decide) (by decide)) q5a q5c (g := (mkF m 40 #[.val (.int p0), .val (.int p1), .val (.int 1), .val (.int 0), .val (.ref a_ONE_OR_MORE), .val (.ref a_ZERO_OR_MORE), .val (.int 0), .val (.int 1)] [(.ref a_ONE_OR_MORE)])) rfl (by rw [hml]; rfl) (Steps.refl _) (argsL := []) (rest := []) (lenOf pd_2 rfl) rfl (by show 2 * 0 + _ ≤ _; exact Nat.le_of_eq rfl) (hb hby at_40) (fun _ _ => ⟨rfl, e4, (by decide : 0 + 0 ≤ _), (by decide : 0 + 0 ≤ _)⟩)
  dsimp only [Pt.U, Pt.locs, Pt.cells, Pt.slots] at X5 l5 y5 z5 st5 hQ5
  subst l5 y5 z5
  obtain ⟨rfl, Nq5, e5⟩ := hQ5
  have N5 := Fr.app N4 Nq5
  -- pc 52: com/example/pathwise/pathwise/sparql/PropertyPath$Repetition.zeroLength
  obtain ⟨cq6, kq6, q6a, q6b, q6c⟩ := isOf hZ e5 f7
  obtain ⟨_, _, ⟨T6, L6, k6, n6⟩, -, X6, ⟨Lc6, hQ6, l6, y6, z6⟩, st6⟩ := X5.virtualBack hx (y := M_2) (z := M_2) hown (mvT hZ (tw_11 hw)) (mvT hZ (tw_12 hw)) (notFace_of_selects (args := #[]) (mvT hZ (tw_14 hw))) (mvT hZ (tw_14 hw)) (mvT hZ (tw_13 hw)) (by decide) (backOf (W := 0) (rm3_13 l Z a0 hw [] a_ZERO_OR_MORE a_ONE_OR_MORE h0 n0 Z0 f3 f6) hZ (tw_15 hw) (tw_6 hw) (by decide) (by decide)) q6a q6c (g := (mkF m 52 #[.val (.int p0), .val (.int p1), .val (.int 1), .val (.int 0), .val (.ref a_ONE_OR_MORE), .val (.ref a_ZERO_OR_MORE), .val (.int 0), .val (.int 1)] [(.ref a_ZERO_OR_MORE)])) rfl (by rw [hml]; rfl) (Steps.refl _) (argsL := []) (rest := []) (lenOf pd_2 rfl) rfl (by show 2 * 0 + _ ≤ _; exact Nat.le_of_eq rfl) (hb hby at_52) (fun _ _ => ⟨rfl, e5, (by decide : 0 + 0 ≤ _), (by decide : 0 + 0 ≤ _)⟩)
  dsimp only [Pt.U, Pt.locs, Pt.cells, Pt.slots] at X6 l6 y6 z6 st6 hQ6
  subst l6 y6 z6
  obtain ⟨rfl, Nq6, e6⟩ := hQ6
  have N6 := Fr.app N5 Nq6
  -- pc 66: com/example/pathwise/pathwise/sparql/PropertyPath$Repetition.around
  obtain ⟨cq7, kq7, q7a, q7b, q7c⟩ := isOf hZ e6 f5
  obtain ⟨_, _, ⟨T7, L7, k7, n7⟩, -, X7, ⟨Lc7, hQ7, l7, y7, z7⟩, st7⟩ := X6.virtualBack hx (y := M_4) (z := M_4) hown (mvT hZ (tw_18 hw)) (mvT hZ (tw_19 hw)) (notFace_of_selects (args := #[]) (mvT hZ (tw_21 hw))) (mvT hZ (tw_21 hw)) (mvT hZ (tw_20 hw)) (by decide) (backOf (W := 0) (rm4_28 l Z a0 hw [] a_ONE_OR_MORE a_ZERO_OR_MORE a_ZERO_OR_ONE h0 n0 Z0 f3 f5 f6 f7 f8 f9 f4) hZ (tw_22 hw) (tw_6 hw) (by decide) (by decide)) q7a q7c (g := (mkF m 66 #[.val (.int p0), .val (.int p1), .val (.int 1), .val (.int 0), .val (.ref a_ONE_OR_MORE), .val (.ref a_ZERO_OR_MORE), .val (.int 0), .val (.int 1)] [(.ref a_ZERO_OR_MORE), (.ref a_ONE_OR_MORE)])) rfl (by rw [hml]; rfl) (Steps.refl _) (argsL := [(.ref a_ZERO_OR_MORE)]) (rest := []) (lenOf pd_3 rfl) rfl (by show 2 * 0 + _ ≤ _; exact Nat.le_of_eq rfl) (hb hby at_66) (fun _ _ => ⟨rfl, e6, (by decide : 0 + 0 ≤ _), (by decide : 0 + 0 ≤ _)⟩)
  dsimp only [Pt.U, Pt.locs, Pt.cells, Pt.slots] at X7 l7 y7 z7 st7 hQ7
  subst l7 y7 z7
  obtain ⟨rfl, Nq7, e7⟩ := hQ7
  have N7 := Fr.app N6 Nq7
  -- pc 69: com/example/pathwise/pathwise/sparql/PropertyPath$Repetition.zeroLength
  obtain ⟨cq8, kq8, q8a, q8b, q8c⟩ := isOf hZ e7 f7
  obtain ⟨_, _, ⟨T8, L8, k8, n8⟩, -, X8, ⟨Lc8, hQ8, l8, y8, z8⟩, st8⟩ := X7.virtualBack hx (y := M_2) (z := M_2) hown (mvT hZ (tw_11 hw)) (mvT hZ (tw_12 hw)) (notFace_of_selects (args := #[]) (mvT hZ (tw_14 hw))) (mvT hZ (tw_14 hw)) (mvT hZ (tw_13 hw)) (by decide) (backOf (W := 0) (rm3_13 l Z a0 hw [] a_ZERO_OR_MORE a_ONE_OR_MORE h0 n0 Z0 f3 f6) hZ (tw_15 hw) (tw_6 hw) (by decide) (by decide)) q8a q8c (g := (mkF m 69 #[.val (.int p0), .val (.int p1), .val (.int 1), .val (.int 0), .val (.ref a_ONE_OR_MORE), .val (.ref a_ZERO_OR_MORE), .val (.int 0), .val (.int 1)] [(.ref a_ZERO_OR_MORE)])) rfl (by rw [hml]; rfl) (Steps.refl _) (argsL := []) (rest := []) (lenOf pd_2 rfl) rfl (by show 2 * 0 + _ ≤ _; exact Nat.le_of_eq rfl) (hb hby at_69) (fun _ _ => ⟨rfl, e7, (by decide : 0 + 0 ≤ _), (by decide : 0 + 0 ≤ _)⟩)
  dsimp only [Pt.U, Pt.locs, Pt.cells, Pt.slots] at X8 l8 y8 z8 st8 hQ8
  subst l8 y8 z8
  obtain ⟨rfl, Nq8, e8⟩ := hQ8
  have N8 := Fr.app N7 Nq8
  obtain ⟨fs, hr, hrun, hended, hW, hsame⟩ := X8.leave (v := (some (.int 1))) (fun h => by rw [Bd.returns] at h; cases h)
  refine ⟨_, _, castTop (ef0_II m p0 p1) ?_, hrun, hended, _, _, rfl, ?_, ⟨_, rfl⟩, hW, hsame.mono (by decide) (by decide)⟩
  · show Steps p.tables e below (s₁.setTop (mkF m 0 #[.val (.int p0), .val (.int p1), .unset, .unset, .unset, .unset, .unset, .unset] [])) _
    refine XS.iloadN X0.here hx rfl (hb hby at_0) rfl ?_
    show Steps p.tables e below (s₁.setTop (mkF m 1 #[.val (.int p0), .val (.int p1), .unset, .unset, .unset, .unset, .unset, .unset] [(.int p0)])) _
    refine X0.ldcInt hx hown (mvT hZ (tw_0 hw)) (g := (mkF m 1 #[.val (.int p0), .val (.int p1), .unset, .unset, .unset, .unset, .unset, .unset] [(.int p0)])) rfl (hb hby at_1) _ ?_
    show Steps p.tables e below (s₁.setTop (mkF m 3 #[.val (.int p0), .val (.int p1), .unset, .unset, .unset, .unset, .unset, .unset] [(.int 2147483647), (.int p0)])) _
    refine XS.iand X0.here hx rfl (hb hby at_3) rfl ?_
    refine XS.iconst X0.here hx rfl (hb hby at_4) ?_
    show Steps p.tables e below (s₁.setTop (mkF m 5 #[.val (.int p0), .val (.int p1), .unset, .unset, .unset, .unset, .unset, .unset] [(.int 3), (.int (p0 &&& (2147483647 : Int32)))])) _
    refine iremM X0 hx rfl (hb hby at_5) rfl (by decide) ?_
    show Steps p.tables e below (s₁.setTop (mkF m 6 #[.val (.int p0), .val (.int p1), .unset, .unset, .unset, .unset, .unset, .unset] [(.int ((p0 &&& (2147483647 : Int32)) % (3 : Int32)))])) _
    rw [f1]
    refine XS.istoreN X0.here hx rfl (hb hby at_6) rfl (l' := #[.val (.int p0), .val (.int p1), .val (.int 1), .unset, .unset, .unset, .unset, .unset]) rfl ?_
    refine XS.iloadN X0.here hx rfl (hb hby at_7) rfl ?_
    show Steps p.tables e below (s₁.setTop (mkF m 8 #[.val (.int p0), .val (.int p1), .val (.int 1), .unset, .unset, .unset, .unset, .unset] [(.int p1)])) _
    refine X0.ldcInt hx hown (mvT hZ (tw_0 hw)) (g := (mkF m 8 #[.val (.int p0), .val (.int p1), .val (.int 1), .unset, .unset, .unset, .unset, .unset] [(.int p1)])) rfl (hb hby at_8) _ ?_
    show Steps p.tables e below (s₁.setTop (mkF m 10 #[.val (.int p0), .val (.int p1), .val (.int 1), .unset, .unset, .unset, .unset, .unset] [(.int 2147483647), (.int p1)])) _
    refine XS.iand X0.here hx rfl (hb hby at_10) rfl ?_
    refine XS.iconst X0.here hx rfl (hb hby at_11) ?_
    show Steps p.tables e below (s₁.setTop (mkF m 12 #[.val (.int p0), .val (.int p1), .val (.int 1), .unset, .unset, .unset, .unset, .unset] [(.int 3), (.int (p1 &&& (2147483647 : Int32)))])) _
    refine iremM X0 hx rfl (hb hby at_12) rfl (by decide) ?_
    show Steps p.tables e below (s₁.setTop (mkF m 13 #[.val (.int p0), .val (.int p1), .val (.int 1), .unset, .unset, .unset, .unset, .unset] [(.int ((p1 &&& (2147483647 : Int32)) % (3 : Int32)))])) _
    rw [f2]
    refine XS.istoreN X0.here hx rfl (hb hby at_13) rfl (l' := #[.val (.int p0), .val (.int p1), .val (.int 1), .val (.int 0), .unset, .unset, .unset, .unset]) rfl ?_
    refine XS.iloadN X0.here hx rfl (hb hby at_14) rfl ?_
    show Steps p.tables e below (s₁.setTop (mkF m 15 #[.val (.int p0), .val (.int p1), .val (.int 1), .val (.int 0), .unset, .unset, .unset, .unset] [(.int 1)])) _
    refine st1 _ ?_
    refine XS.astore X1.here hx rfl (hb hby at_18) rfl rfl (l' := #[.val (.int p0), .val (.int p1), .val (.int 1), .val (.int 0), .val (.ref a_ONE_OR_MORE), .unset, .unset, .unset]) rfl ?_
    refine XS.iloadN X1.here hx rfl (hb hby at_20) rfl ?_
    show Steps p.tables e below (T1.setTop (mkF m 21 #[.val (.int p0), .val (.int p1), .val (.int 1), .val (.int 0), .val (.ref a_ONE_OR_MORE), .unset, .unset, .unset] [(.int 0)])) _
    refine st2 _ ?_
    refine XS.astore X2.here hx rfl (hb hby at_24) rfl rfl (l' := #[.val (.int p0), .val (.int p1), .val (.int 1), .val (.int 0), .val (.ref a_ONE_OR_MORE), .val (.ref a_ZERO_OR_MORE), .unset, .unset]) rfl ?_
    refine XS.iloadN X2.here hx rfl (hb hby at_26) rfl ?_
    show Steps p.tables e below (T2.setTop (mkF m 27 #[.val (.int p0), .val (.int p1), .val (.int 1), .val (.int 0), .val (.ref a_ONE_OR_MORE), .val (.ref a_ZERO_OR_MORE), .unset, .unset] [(.int 1)])) _
    refine st3 _ ?_
    refine XS.istore X3.here hx rfl (hb hby at_30) rfl (l' := #[.val (.int p0), .val (.int p1), .val (.int 1), .val (.int 0), .val (.ref a_ONE_OR_MORE), .val (.ref a_ZERO_OR_MORE), .val (.int 0), .unset]) rfl ?_
    refine XS.iloadN X3.here hx rfl (hb hby at_32) rfl ?_
    show Steps p.tables e below (T3.setTop (mkF m 33 #[.val (.int p0), .val (.int p1), .val (.int 1), .val (.int 0), .val (.ref a_ONE_OR_MORE), .val (.ref a_ZERO_OR_MORE), .val (.int 0), .unset] [(.int 0)])) _
    refine st4 _ ?_
    refine XS.istore X4.here hx rfl (hb hby at_36) rfl (l' := #[.val (.int p0), .val (.int p1), .val (.int 1), .val (.int 0), .val (.ref a_ONE_OR_MORE), .val (.ref a_ZERO_OR_MORE), .val (.int 0), .val (.int 1)]) rfl ?_
    refine XS.aload X4.here hx rfl (hb hby at_38) rfl rfl ?_
    show Steps p.tables e below (T4.setTop (mkF m 40 #[.val (.int p0), .val (.int p1), .val (.int 1), .val (.int 0), .val (.ref a_ONE_OR_MORE), .val (.ref a_ZERO_OR_MORE), .val (.int 0), .val (.int 1)] [(.ref a_ONE_OR_MORE)])) _
    refine st5.trans ?_
    refine XS.iload X5.here hx rfl (hb hby at_43) rfl ?_
    refine XS.icmpYes X5.here hx rfl (pc0 := 45) (pc' := 50) rfl (hb hby at_45) rfl (by decide) (by decide) (by decide) ?_
    refine XS.aload X5.here hx rfl (hb hby at_50) rfl rfl ?_
    show Steps p.tables e below (T5.setTop (mkF m 52 #[.val (.int p0), .val (.int p1), .val (.int 1), .val (.int 0), .val (.ref a_ONE_OR_MORE), .val (.ref a_ZERO_OR_MORE), .val (.int 0), .val (.int 1)] [(.ref a_ZERO_OR_MORE)])) _
    refine st6.trans ?_
    refine XS.iload X6.here hx rfl (hb hby at_55) rfl ?_
    refine XS.icmpYes X6.here hx rfl (pc0 := 57) (pc' := 62) rfl (hb hby at_57) rfl (by decide) (by decide) (by decide) ?_
    refine XS.aload X6.here hx rfl (hb hby at_62) rfl rfl ?_
    refine XS.aload X6.here hx rfl (hb hby at_64) rfl rfl ?_
    show Steps p.tables e below (T6.setTop (mkF m 66 #[.val (.int p0), .val (.int p1), .val (.int 1), .val (.int 0), .val (.ref a_ONE_OR_MORE), .val (.ref a_ZERO_OR_MORE), .val (.int 0), .val (.int 1)] [(.ref a_ZERO_OR_MORE), (.ref a_ONE_OR_MORE)])) _
    refine st7.trans ?_
    show Steps p.tables e below (T7.setTop (mkF m 69 #[.val (.int p0), .val (.int p1), .val (.int 1), .val (.int 0), .val (.ref a_ONE_OR_MORE), .val (.ref a_ZERO_OR_MORE), .val (.int 0), .val (.int 1)] [(.ref a_ZERO_OR_MORE)])) _
    refine st8.trans ?_
    refine XS.iload X8.here hx rfl (hb hby at_72) rfl ?_
    refine XS.ifNo X8.here hx rfl (hb hby at_74) rfl (by decide) ?_
    refine XS.iload X8.here hx rfl (hb hby at_77) rfl ?_
    refine XS.ifNo X8.here hx rfl (hb hby at_79) rfl (by decide) ?_
    show Steps p.tables e below (T8.setTop (mkF m 82 #[.val (.int p0), .val (.int p1), .val (.int 1), .val (.int 0), .val (.ref a_ONE_OR_MORE), .val (.ref a_ZERO_OR_MORE), .val (.int 0), .val (.int 1)] [(.int 1)])) _
    refine XS.iconst X8.here hx rfl (hb hby at_82) ?_
    refine XS.goto X8.here hx rfl (pc0 := 83) (pc' := 87) rfl (hb hby at_83) (by decide) (by decide) ?_
    refine XS.icmpNo X8.here hx rfl (hb hby at_87) rfl (by decide) ?_
    refine XS.iconst X8.here hx rfl (hb hby at_90) ?_
    refine XS.goto X8.here hx rfl (pc0 := 91) (pc' := 95) rfl (hb hby at_91) (by decide) (by decide) ?_
    show Steps p.tables e below (T8.setTop (mkF m 95 #[.val (.int p0), .val (.int p1), .val (.int 1), .val (.int 0), .val (.ref a_ONE_OR_MORE), .val (.ref a_ZERO_OR_MORE), .val (.int 0), .val (.int 1)] [(.int 1)])) _
    exact retN X8 hx (t := .boolean) Bd.returns (by simp) (hb hby at_95) hr
  · show QT n0 _ T8.heap _
    rw [e8]
    exact ⟨rfl, N8⟩
theorem d4_18 : decode prog_118_method_6_code 18 = .ok (.iconst 0, 1) := by decide +kernel
theorem d4_44 : decode prog_118_method_6_code 44 = .ok (.getstatic 7, 3) := by decide +kernel
set_option maxRecDepth 65536 in
set_option maxHeartbeats 40000000 in
theorem rm4_30 (l : Launch) (Z : State) (a0 : Array Value) (hw : ∀ d ∈ tables_1, d.before a0 Z = true) (ws : List Jvm.Cond) (a_ONE_OR_MORE : Addr) (a_ZERO_OR_ONE : Addr) (h0 : Heap) (n0 : Nat) (Z0 : n0 ≤ h0.size) (f1 : S_1 Z h0 (.ref a_ONE_OR_MORE)) (f2 : E_0 Z h0 a_ONE_OR_MORE) (f3 : S_2 Z h0 (.ref a_ZERO_OR_ONE)) (f4 : a_ONE_OR_MORE ≠ a_ZERO_OR_ONE) :
    MetFree l M_4 (head1 (Jvm.Cond.code M_4 prog_118_method_6_code 3 (some (.object "com/example/pathwise/pathwise/sparql/PropertyPath$Repetition")) :: ws) R_1_0_0_12) (fun a U => a = #[(.ref a_ONE_OR_MORE), (.ref a_ONE_OR_MORE)] ∧ Z.Warmed39 U.vm ∧ U.heap = h0) (fun _ _ _ _ _ => True) (fun _ U o U' => ∃ v L, o = .returned v ∧ QP (some (.ref a_ONE_OR_MORE)) h0 n0 v U'.heap L ∧ FrameEnd U o U' L R_1_0_0_12.cells R_1_0_0_12.slots) := by
  refine MetFree.of_bodySF (plainFor_of_name pn_com_example_pathwise_pathwise_sparql_PropertyPath_Repetition) hisR ?_
  intro p e s m args below meth c s₁ Bd hml0 hP hK
  obtain ⟨rfl, hZ, hh⟩ := hP
  have hx := Bd.exec
  have hby := Bd.bytes
  have hml : c.maxLocals = 3 := hml0
  have hown : s.vm.findClass "com/example/pathwise/pathwise/sparql/PropertyPath$Repetition" = some m.cls := findClass_of_methodNamed Bd.named
  have hnm := (name_of_methodNamed Bd.named Bd.method).1
  have X0 : Stand p l e R_1_0_0_12 s m #[(.ref a_ONE_OR_MORE), (.ref a_ONE_OR_MORE)] below meth c s₁ [] 0 0 := Stand.of_body Bd
  have e0 : s₁.heap = h0 := by rw [← hh, Bd.state]; rfl
  have N0 := Fr.nil n0
  -- pc 1: com/example/pathwise/pathwise/sparql/PropertyPath$Repetition.zeroLength
  obtain ⟨cq1, kq1, q1a, q1b, q1c⟩ := isOf hZ e0 f2
  obtain ⟨_, _, ⟨T1, L1, k1, n1⟩, -, X1, ⟨Lc1, hQ1, l1, y1, z1⟩, st1⟩ := X0.virtualBack hx (y := M_2) (z := M_2) hown (mvT hZ (tw_23 hw)) (mvT hZ (tw_12 hw)) (notFace_of_selects (args := #[]) (mvT hZ (tw_14 hw))) (mvT hZ (tw_14 hw)) (mvT hZ (tw_13 hw)) (by decide) (backOf (W := 0) (rm3_19 l Z a0 hw [] a_ONE_OR_MORE h0 n0 Z0 f1) hZ (tw_15 hw) (tw_6 hw) (by decide) (by decide)) q1a q1c (g := (mkF m 1 #[.val (.ref a_ONE_OR_MORE), .val (.ref a_ONE_OR_MORE), .unset] [(.ref a_ONE_OR_MORE)])) rfl (by rw [hml]; rfl) (Steps.refl _) (argsL := []) (rest := []) (lenOf pd_2 rfl) rfl (by show 2 * 0 + _ ≤ _; exact Nat.le_of_eq rfl) (hb hby d4_1) (fun _ _ => ⟨rfl, e0, (by decide : 0 + 0 ≤ _), (by decide : 0 + 0 ≤ _)⟩)
  dsimp only [Pt.U, Pt.locs, Pt.cells, Pt.slots] at X1 l1 y1 z1 st1 hQ1
  subst l1 y1 z1
  obtain ⟨rfl, Nq1, e1⟩ := hQ1
  have N1 := Fr.app N0 Nq1
  -- pc 8: com/example/pathwise/pathwise/sparql/PropertyPath$Repetition.zeroLength
  obtain ⟨cq2, kq2, q2a, q2b, q2c⟩ := isOf hZ e1 f2
  obtain ⟨_, _, ⟨T2, L2, k2, n2⟩, -, X2, ⟨Lc2, hQ2, l2, y2, z2⟩, st2⟩ := X1.virtualBack hx (y := M_2) (z := M_2) hown (mvT hZ (tw_23 hw)) (mvT hZ (tw_12 hw)) (notFace_of_selects (args := #[]) (mvT hZ (tw_14 hw))) (mvT hZ (tw_14 hw)) (mvT hZ (tw_13 hw)) (by decide) (backOf (W := 0) (rm3_19 l Z a0 hw [] a_ONE_OR_MORE h0 n0 Z0 f1) hZ (tw_15 hw) (tw_6 hw) (by decide) (by decide)) q2a q2c (g := (mkF m 8 #[.val (.ref a_ONE_OR_MORE), .val (.ref a_ONE_OR_MORE), .unset] [(.ref a_ONE_OR_MORE)])) rfl (by rw [hml]; rfl) (Steps.refl _) (argsL := []) (rest := []) (lenOf pd_2 rfl) rfl (by show 2 * 0 + _ ≤ _; exact Nat.le_of_eq rfl) (hb hby d4_8) (fun _ _ => ⟨rfl, e1, (by decide : 0 + 0 ≤ _), (by decide : 0 + 0 ≤ _)⟩)
  dsimp only [Pt.U, Pt.locs, Pt.cells, Pt.slots] at X2 l2 y2 z2 st2 hQ2
  subst l2 y2 z2
  obtain ⟨rfl, Nq2, e2⟩ := hQ2
  have N2 := Fr.app N1 Nq2
  -- pc 21: com/example/pathwise/pathwise/sparql/PropertyPath$Repetition.unbounded
  obtain ⟨cq3, kq3, q3a, q3b, q3c⟩ := isOf hZ e2 f2
  obtain ⟨_, _, ⟨T3, L3, k3, n3⟩, -, X3, ⟨Lc3, hQ3, l3, y3, z3⟩, st3⟩ := X2.virtualBack hx (y := M_3) (z := M_3) hown (mvT hZ (tw_24 hw)) (mvT hZ (tw_25 hw)) (notFace_of_selects (args := #[]) (mvT hZ (tw_27 hw))) (mvT hZ (tw_27 hw)) (mvT hZ (tw_26 hw)) (by decide) (backOf (W := 0) (rm5_27 l Z a0 hw [] a_ONE_OR_MORE a_ZERO_OR_ONE h0 n0 Z0 f3 f4) hZ (tw_28 hw) (tw_6 hw) (by decide) (by decide)) q3a q3c (g := (mkF m 21 #[.val (.ref a_ONE_OR_MORE), .val (.ref a_ONE_OR_MORE), .val (.int 0)] [(.ref a_ONE_OR_MORE)])) rfl (by rw [hml]; rfl) (Steps.refl _) (argsL := []) (rest := []) (lenOf pd_2 rfl) rfl (by show 2 * 0 + _ ≤ _; exact Nat.le_of_eq rfl) (hb hby d4_21) (fun _ _ => ⟨rfl, e2, (by decide : 0 + 0 ≤ _), (by decide : 0 + 0 ≤ _)⟩)
  dsimp only [Pt.U, Pt.locs, Pt.cells, Pt.slots] at X3 l3 y3 z3 st3 hQ3
  subst l3 y3 z3
  obtain ⟨rfl, Nq3, e3⟩ := hQ3
  have N3 := Fr.app N2 Nq3
  obtain ⟨T4, X4, e4, st4⟩ := getS2 X3 hx hZ hown (host := "") (Or.inl (tw_16 hw)) Via.refl e3 f1 (g := (mkF m 44 #[.val (.ref a_ONE_OR_MORE), .val (.ref a_ONE_OR_MORE), .val (.int 0)] [])) rfl (hb hby d4_44)
  obtain ⟨fs, hr, hrun, hended, hW, hsame⟩ := X4.leave (v := (some (.ref a_ONE_OR_MORE))) (fun h => by rw [Bd.returns] at h; cases h)
  refine ⟨_, _, castTop (ef4_RR m a_ONE_OR_MORE a_ONE_OR_MORE) ?_, hrun, hended, _, _, rfl, ?_, ⟨_, rfl⟩, hW, hsame.mono (by decide) (by decide)⟩
  · show Steps p.tables e below (s₁.setTop (mkF m 0 #[.val (.ref a_ONE_OR_MORE), .val (.ref a_ONE_OR_MORE), .unset] [])) _
    refine XS.aloadN X0.here hx rfl (hb hby d4_0) rfl rfl ?_
    show Steps p.tables e below (s₁.setTop (mkF m 1 #[.val (.ref a_ONE_OR_MORE), .val (.ref a_ONE_OR_MORE), .unset] [(.ref a_ONE_OR_MORE)])) _
    refine st1.trans ?_
    refine XS.ifNo X1.here hx rfl (hb hby d4_4) rfl (by decide) ?_
    refine XS.aloadN X1.here hx rfl (hb hby d4_7) rfl rfl ?_
    show Steps p.tables e below (T1.setTop (mkF m 8 #[.val (.ref a_ONE_OR_MORE), .val (.ref a_ONE_OR_MORE), .unset] [(.ref a_ONE_OR_MORE)])) _
    refine st2.trans ?_
    refine XS.ifYes X2.here hx rfl (pc0 := 11) (pc' := 18) rfl (hb hby d4_11) rfl (by decide) (by decide) (by decide) ?_
    refine XS.iconst X2.here hx rfl (hb hby d4_18) ?_
    refine XS.istoreN X2.here hx rfl (hb hby d4_19) rfl (l' := #[.val (.ref a_ONE_OR_MORE), .val (.ref a_ONE_OR_MORE), .val (.int 0)]) rfl ?_
    refine XS.aloadN X2.here hx rfl (hb hby d4_20) rfl rfl ?_
    show Steps p.tables e below (T2.setTop (mkF m 21 #[.val (.ref a_ONE_OR_MORE), .val (.ref a_ONE_OR_MORE), .val (.int 0)] [(.ref a_ONE_OR_MORE)])) _
    refine st3.trans ?_
    refine XS.ifYes X3.here hx rfl (pc0 := 24) (pc' := 34) rfl (hb hby d4_24) rfl (by decide) (by decide) (by decide) ?_
    refine XS.iloadN X3.here hx rfl (hb hby d4_34) rfl ?_
    refine XS.ifYes X3.here hx rfl (pc0 := 35) (pc' := 44) rfl (hb hby d4_35) rfl (by decide) (by decide) (by decide) ?_
    show Steps p.tables e below (T3.setTop (mkF m 44 #[.val (.ref a_ONE_OR_MORE), .val (.ref a_ONE_OR_MORE), .val (.int 0)] [])) _
    refine st4 _ ?_
    show Steps p.tables e below (T4.setTop (mkF m 47 #[.val (.ref a_ONE_OR_MORE), .val (.ref a_ONE_OR_MORE), .val (.int 0)] [(.ref a_ONE_OR_MORE)])) _
    jvm_step X4.here [X4.here.top, hx, (hb hby d4_47), X4.method', Bd.returns, Value.isRef, FieldType.isReference]
    first | (intro acts; rw [hr _ acts rfl rfl rfl]) | rw [hr _ _ rfl rfl rfl]
    exact Steps.refl _
  · show QP (some (.ref a_ONE_OR_MORE)) h0 n0 _ T4.heap _
    rw [e4]
    exact ⟨rfl, N3, rfl⟩
set_option maxRecDepth 65536 in
set_option maxHeartbeats 40000000 in
theorem rm0_31 (l : Launch) (Z : State) (a0 : Array Value) (hw : ∀ d ∈ tables_1, d.before a0 Z = true) (ws : List Jvm.Cond) (p0 : Int32) (p1 : Int32) (a_ONE_OR_MORE : Addr) (a_ZERO_OR_ONE : Addr) (h0 : Heap) (n0 : Nat) (Z0 : n0 ≤ h0.size) (f1 : ((p0 &&& (2147483647 : Int32)) % (3 : Int32)) = (1 : Int32)) (f2 : ((p1 &&& (2147483647 : Int32)) % (3 : Int32)) = (1 : Int32)) (f3 : S_1 Z h0 (.ref a_ONE_OR_MORE)) (f4 : E_0 Z h0 a_ONE_OR_MORE) (f5 : S_2 Z h0 (.ref a_ZERO_OR_ONE)) (f6 : a_ONE_OR_MORE ≠ a_ZERO_OR_ONE) :
    MetFree l x (head1 (Jvm.Cond.code x code maxLocals ret :: ws) room_1) (fun a U => a = #[(.int p0), (.int p1)] ∧ Z.Warmed39 U.vm ∧ U.heap = h0) (fun _ _ _ _ _ => True) (fun _ U o U' => ∃ v L, o = .returned v ∧ QT n0 v U'.heap L ∧ FrameEnd U o U' L room_1.cells room_1.slots) := by
  refine MetFree.of_bodySF (plainFor_of_name pn_com_example_pathwise_pathwise_sparql_RepetitionZeroLengthPinLaw) hisR ?_
  intro p e s m args below meth c s₁ Bd hml0 hP hK
  obtain ⟨rfl, hZ, hh⟩ := hP
  have hx := Bd.exec
  have hby := Bd.bytes
  have hml : c.maxLocals = 8 := hml0
  have hown : s.vm.findClass "com/example/pathwise/pathwise/sparql/RepetitionZeroLengthPinLaw" = some m.cls := findClass_of_methodNamed Bd.named
  have hnm := (name_of_methodNamed Bd.named Bd.method).1
  have X0 : Stand p l e room_1 s m #[(.int p0), (.int p1)] below meth c s₁ [] 0 0 := Stand.of_body Bd
  have e0 : s₁.heap = h0 := by rw [← hh, Bd.state]; rfl
  have N0 := Fr.nil n0
  -- pc 15: com/example/pathwise/pathwise/sparql/RepetitionZeroLengthPinLaw.pick
  obtain ⟨_, _, ⟨T1, L1, k1, n1⟩, -, X1, ⟨Lc1, hQ1, l1, y1, z1⟩, st1⟩ := Jvm.LawKit.callS X0 hx (y := M_0) hown (mvT hZ (tw_1 hw)) (mvT hZ (tw_2 hw)) (mvT hZ (tw_3 hw)) (mvT hZ (tw_4 hw)) (by decide) (backOf (W := 0) (rm1_17 l Z a0 hw [] a_ONE_OR_MORE h0 n0 Z0 f3) hZ (tw_4 hw) (tw_3 hw) (by decide) (by decide)) (g := (mkF m 15 #[.val (.int p0), .val (.int p1), .val (.int 1), .val (.int 1), .unset, .unset, .unset, .unset] [(.int 1)])) rfl (by rw [hml]; rfl) (argsL := [(.int 1)]) (rest := []) (lenOf pd_0 rfl) rfl (by show 2 * 0 + _ ≤ _; exact Nat.le_of_eq rfl) (hb hby at_15) (fun _ _ => ⟨rfl, e0, (by decide : 0 + 0 ≤ _), (by decide : 0 + 0 ≤ _)⟩)
  dsimp only [Pt.U, Pt.locs, Pt.cells, Pt.slots] at X1 l1 y1 z1 st1 hQ1
  subst l1 y1 z1
  obtain ⟨rfl, Nq1, e1⟩ := hQ1
  have N1 := Fr.app N0 Nq1
  -- pc 21: com/example/pathwise/pathwise/sparql/RepetitionZeroLengthPinLaw.pick
  obtain ⟨_, _, ⟨T2, L2, k2, n2⟩, -, X2, ⟨Lc2, hQ2, l2, y2, z2⟩, st2⟩ := Jvm.LawKit.callS X1 hx (y := M_0) hown (mvT hZ (tw_1 hw)) (mvT hZ (tw_2 hw)) (mvT hZ (tw_3 hw)) (mvT hZ (tw_4 hw)) (by decide) (backOf (W := 0) (rm1_17 l Z a0 hw [] a_ONE_OR_MORE h0 n0 Z0 f3) hZ (tw_4 hw) (tw_3 hw) (by decide) (by decide)) (g := (mkF m 21 #[.val (.int p0), .val (.int p1), .val (.int 1), .val (.int 1), .val (.ref a_ONE_OR_MORE), .unset, .unset, .unset] [(.int 1)])) rfl (by rw [hml]; rfl) (argsL := [(.int 1)]) (rest := []) (lenOf pd_0 rfl) rfl (by show 2 * 0 + _ ≤ _; exact Nat.le_of_eq rfl) (hb hby at_21) (fun _ _ => ⟨rfl, e1, (by decide : 0 + 0 ≤ _), (by decide : 0 + 0 ≤ _)⟩)
  dsimp only [Pt.U, Pt.locs, Pt.cells, Pt.slots] at X2 l2 y2 z2 st2 hQ2
  subst l2 y2 z2
  obtain ⟨rfl, Nq2, e2⟩ := hQ2
  have N2 := Fr.app N1 Nq2
  -- pc 27: com/example/pathwise/pathwise/sparql/RepetitionZeroLengthPinLaw.expected
  obtain ⟨_, _, ⟨T3, L3, k3, n3⟩, -, X3, ⟨Lc3, hQ3, l3, y3, z3⟩, st3⟩ := Jvm.LawKit.callS X2 hx (y := M_1) hown (mvT hZ (tw_8 hw)) (mvT hZ (tw_9 hw)) (mvT hZ (tw_3 hw)) (mvT hZ (tw_10 hw)) (by decide) (backOf (W := 0) (rm2_18 l Z a0 hw []  h0 n0 Z0 ) hZ (tw_10 hw) (tw_3 hw) (by decide) (by decide)) (g := (mkF m 27 #[.val (.int p0), .val (.int p1), .val (.int 1), .val (.int 1), .val (.ref a_ONE_OR_MORE), .val (.ref a_ONE_OR_MORE), .unset, .unset] [(.int 1)])) rfl (by rw [hml]; rfl) (argsL := [(.int 1)]) (rest := []) (lenOf pd_1 rfl) rfl (by show 2 * 0 + _ ≤ _; exact Nat.le_of_eq rfl) (hb hby at_27) (fun _ _ => ⟨rfl, e2, (by decide : 0 + 0 ≤ _), (by decide : 0 + 0 ≤ _)⟩)
  dsimp only [Pt.U, Pt.locs, Pt.cells, Pt.slots] at X3 l3 y3 z3 st3 hQ3
  subst l3 y3 z3
  obtain ⟨rfl, Nq3, e3⟩ := hQ3
  have N3 := Fr.app N2 Nq3
  -- pc 33: com/example/pathwise/pathwise/sparql/RepetitionZeroLengthPinLaw.expected
  obtain ⟨_, _, ⟨T4, L4, k4, n4⟩, -, X4, ⟨Lc4, hQ4, l4, y4, z4⟩, st4⟩ := Jvm.LawKit.callS X3 hx (y := M_1) hown (mvT hZ (tw_8 hw)) (mvT hZ (tw_9 hw)) (mvT hZ (tw_3 hw)) (mvT hZ (tw_10 hw)) (by decide) (backOf (W := 0) (rm2_18 l Z a0 hw []  h0 n0 Z0 ) hZ (tw_10 hw) (tw_3 hw) (by decide) (by decide)) (g := (mkF m 33 #[.val (.int p0), .val (.int p1), .val (.int 1), .val (.int 1), .val (.ref a_ONE_OR_MORE), .val (.ref a_ONE_OR_MORE), .val (.int 0), .unset] [(.int 1)])) rfl (by rw [hml]; rfl) (argsL := [(.int 1)]) (rest := []) (lenOf pd_1 rfl) rfl (by show 2 * 0 + _ ≤ _; exact Nat.le_of_eq rfl) (hb hby at_33) (fun _ _ => ⟨rfl, e3, (by decide : 0 + 0 ≤ _), (by decide : 0 + 0 ≤ _)⟩)
  dsimp only [Pt.U, Pt.locs, Pt.cells, Pt.slots] at X4 l4 y4 z4 st4 hQ4
  subst l4 y4 z4
  obtain ⟨rfl, Nq4, e4⟩ := hQ4
  have N4 := Fr.app N3 Nq4
  -- pc 40: com/example/pathwise/pathwise/sparql/PropertyPath$Repetition.zeroLength
  obtain ⟨cq5, kq5, q5a, q5b, q5c⟩ := isOf hZ e4 f4
  obtain ⟨_, _, ⟨T5, L5, k5, n5⟩, -, X5, ⟨Lc5, hQ5, l5, y5, z5⟩, st5⟩ := X4.virtualBack hx (y := M_2) (z := M_2) hown (mvT hZ (tw_11 hw)) (mvT hZ (tw_12 hw)) (notFace_of_selects (args := #[]) (mvT hZ (tw_14 hw))) (mvT hZ (tw_14 hw)) (mvT hZ (tw_13 hw)) (by decide) (backOf (W := 0) (rm3_19 l Z a0 hw [] a_ONE_OR_MORE h0 n0 Z0 f3) hZ (tw_15 hw) (tw_6 hw) (by decide) (by decide)) q5a q5c (g := (mkF m 40 #[.val (.int p0), .val (.int p1), .val (.int 1), .val (.int 1), .val (.ref a_ONE_OR_MORE), .val (.ref a_ONE_OR_MORE), .val (.int 0), .val (.int 0)] [(.ref a_ONE_OR_MORE)])) rfl (by rw [hml]; rfl) (Steps.refl _) (argsL := []) (rest := []) (lenOf pd_2 rfl) rfl (by show 2 * 0 + _ ≤ _; exact Nat.le_of_eq rfl) (hb hby at_40) (fun _ _ => ⟨rfl, e4, (by decide : 0 + 0 ≤ _), (by decide : 0 + 0 ≤ _)⟩)
  dsimp only [Pt.U, Pt.locs, Pt.cells, Pt.slots] at X5 l5 y5 z5 st5 hQ5
  subst l5 y5 z5
  obtain ⟨rfl, Nq5, e5⟩ := hQ5
  have N5 := Fr.app N4 Nq5
  -- pc 52: com/example/pathwise/pathwise/sparql/PropertyPath$Repetition.zeroLength
  obtain ⟨cq6, kq6, q6a, q6b, q6c⟩ := isOf hZ e5 f4
  obtain ⟨_, _, ⟨T6, L6, k6, n6⟩, -, X6, ⟨Lc6, hQ6, l6, y6, z6⟩, st6⟩ := X5.virtualBack hx (y := M_2) (z := M_2) hown (mvT hZ (tw_11 hw)) (mvT hZ (tw_12 hw)) (notFace_of_selects (args := #[]) (mvT hZ (tw_14 hw))) (mvT hZ (tw_14 hw)) (mvT hZ (tw_13 hw)) (by decide) (backOf (W := 0) (rm3_19 l Z a0 hw [] a_ONE_OR_MORE h0 n0 Z0 f3) hZ (tw_15 hw) (tw_6 hw) (by decide) (by decide)) q6a q6c (g := (mkF m 52 #[.val (.int p0), .val (.int p1), .val (.int 1), .val (.int 1), .val (.ref a_ONE_OR_MORE), .val (.ref a_ONE_OR_MORE), .val (.int 0), .val (.int 0)] [(.ref a_ONE_OR_MORE)])) rfl (by rw [hml]; rfl) (Steps.refl _) (argsL := []) (rest := []) (lenOf pd_2 rfl) rfl (by show 2 * 0 + _ ≤ _; exact Nat.le_of_eq rfl) (hb hby at_52) (fun _ _ => ⟨rfl, e5, (by decide : 0 + 0 ≤ _), (by decide : 0 + 0 ≤ _)⟩)
  dsimp only [Pt.U, Pt.locs, Pt.cells, Pt.slots] at X6 l6 y6 z6 st6 hQ6
  subst l6 y6 z6
  obtain ⟨rfl, Nq6, e6⟩ := hQ6
  have N6 := Fr.app N5 Nq6
  -- pc 66: com/example/pathwise/pathwise/sparql/PropertyPath$Repetition.around
  obtain ⟨cq7, kq7, q7a, q7b, q7c⟩ := isOf hZ e6 f4
  obtain ⟨_, _, ⟨T7, L7, k7, n7⟩, -, X7, ⟨Lc7, hQ7, l7, y7, z7⟩, st7⟩ := X6.virtualBack hx (y := M_4) (z := M_4) hown (mvT hZ (tw_18 hw)) (mvT hZ (tw_19 hw)) (notFace_of_selects (args := #[]) (mvT hZ (tw_21 hw))) (mvT hZ (tw_21 hw)) (mvT hZ (tw_20 hw)) (by decide) (backOf (W := 0) (rm4_30 l Z a0 hw [] a_ONE_OR_MORE a_ZERO_OR_ONE h0 n0 Z0 f3 f4 f5 f6) hZ (tw_22 hw) (tw_6 hw) (by decide) (by decide)) q7a q7c (g := (mkF m 66 #[.val (.int p0), .val (.int p1), .val (.int 1), .val (.int 1), .val (.ref a_ONE_OR_MORE), .val (.ref a_ONE_OR_MORE), .val (.int 0), .val (.int 0)] [(.ref a_ONE_OR_MORE), (.ref a_ONE_OR_MORE)])) rfl (by rw [hml]; rfl) (Steps.refl _) (argsL := [(.ref a_ONE_OR_MORE)]) (rest := []) (lenOf pd_3 rfl) rfl (by show 2 * 0 + _ ≤ _; exact Nat.le_of_eq rfl) (hb hby at_66) (fun _ _ => ⟨rfl, e6, (by decide : 0 + 0 ≤ _), (by decide : 0 + 0 ≤ _)⟩)
  dsimp only [Pt.U, Pt.locs, Pt.cells, Pt.slots] at X7 l7 y7 z7 st7 hQ7
  subst l7 y7 z7
  obtain ⟨rfl, Nq7, e7⟩ := hQ7
  have N7 := Fr.app N6 Nq7
  -- pc 69: com/example/pathwise/pathwise/sparql/PropertyPath$Repetition.zeroLength
  obtain ⟨cq8, kq8, q8a, q8b, q8c⟩ := isOf hZ e7 f4
  obtain ⟨_, _, ⟨T8, L8, k8, n8⟩, -, X8, ⟨Lc8, hQ8, l8, y8, z8⟩, st8⟩ := X7.virtualBack hx (y := M_2) (z := M_2) hown (mvT hZ (tw_11 hw)) (mvT hZ (tw_12 hw)) (notFace_of_selects (args := #[]) (mvT hZ (tw_14 hw))) (mvT hZ (tw_14 hw)) (mvT hZ (tw_13 hw)) (by decide) (backOf (W := 0) (rm3_19 l Z a0 hw [] a_ONE_OR_MORE h0 n0 Z0 f3) hZ (tw_15 hw) (tw_6 hw) (by decide) (by decide)) q8a q8c (g := (mkF m 69 #[.val (.int p0), .val (.int p1), .val (.int 1), .val (.int 1), .val (.ref a_ONE_OR_MORE), .val (.ref a_ONE_OR_MORE), .val (.int 0), .val (.int 0)] [(.ref a_ONE_OR_MORE)])) rfl (by rw [hml]; rfl) (Steps.refl _) (argsL := []) (rest := []) (lenOf pd_2 rfl) rfl (by show 2 * 0 + _ ≤ _; exact Nat.le_of_eq rfl) (hb hby at_69) (fun _ _ => ⟨rfl, e7, (by decide : 0 + 0 ≤ _), (by decide : 0 + 0 ≤ _)⟩)
  dsimp only [Pt.U, Pt.locs, Pt.cells, Pt.slots] at X8 l8 y8 z8 st8 hQ8
  subst l8 y8 z8
  obtain ⟨rfl, Nq8, e8⟩ := hQ8
  have N8 := Fr.app N7 Nq8
  obtain ⟨fs, hr, hrun, hended, hW, hsame⟩ := X8.leave (v := (some (.int 1))) (fun h => by rw [Bd.returns] at h; cases h)
  refine ⟨_, _, castTop (ef0_II m p0 p1) ?_, hrun, hended, _, _, rfl, ?_, ⟨_, rfl⟩, hW, hsame.mono (by decide) (by decide)⟩
  · show Steps p.tables e below (s₁.setTop (mkF m 0 #[.val (.int p0), .val (.int p1), .unset, .unset, .unset, .unset, .unset, .unset] [])) _
    refine XS.iloadN X0.here hx rfl (hb hby at_0) rfl ?_
    show Steps p.tables e below (s₁.setTop (mkF m 1 #[.val (.int p0), .val (.int p1), .unset, .unset, .unset, .unset, .unset, .unset] [(.int p0)])) _
    refine X0.ldcInt hx hown (mvT hZ (tw_0 hw)) (g := (mkF m 1 #[.val (.int p0), .val (.int p1), .unset, .unset, .unset, .unset, .unset, .unset] [(.int p0)])) rfl (hb hby at_1) _ ?_
    show Steps p.tables e below (s₁.setTop (mkF m 3 #[.val (.int p0), .val (.int p1), .unset, .unset, .unset, .unset, .unset, .unset] [(.int 2147483647), (.int p0)])) _
    refine XS.iand X0.here hx rfl (hb hby at_3) rfl ?_
    refine XS.iconst X0.here hx rfl (hb hby at_4) ?_
    show Steps p.tables e below (s₁.setTop (mkF m 5 #[.val (.int p0), .val (.int p1), .unset, .unset, .unset, .unset, .unset, .unset] [(.int 3), (.int (p0 &&& (2147483647 : Int32)))])) _
    refine iremM X0 hx rfl (hb hby at_5) rfl (by decide) ?_
    show Steps p.tables e below (s₁.setTop (mkF m 6 #[.val (.int p0), .val (.int p1), .unset, .unset, .unset, .unset, .unset, .unset] [(.int ((p0 &&& (2147483647 : Int32)) % (3 : Int32)))])) _
    rw [f1]
    refine XS.istoreN X0.here hx rfl (hb hby at_6) rfl (l' := #[.val (.int p0), .val (.int p1), .val (.int 1), .unset, .unset, .unset, .unset, .unset]) rfl ?_
    refine XS.iloadN X0.here hx rfl (hb hby at_7) rfl ?_
    show Steps p.tables e below (s₁.setTop (mkF m 8 #[.val (.int p0), .val (.int p1), .val (.int 1), .unset, .unset, .unset, .unset, .unset] [(.int p1)])) _
    refine X0.ldcInt hx hown (mvT hZ (tw_0 hw)) (g := (mkF m 8 #[.val (.int p0), .val (.int p1), .val (.int 1), .unset, .unset, .unset, .unset, .unset] [(.int p1)])) rfl (hb hby at_8) _ ?_
    show Steps p.tables e below (s₁.setTop (mkF m 10 #[.val (.int p0), .val (.int p1), .val (.int 1), .unset, .unset, .unset, .unset, .unset] [(.int 2147483647), (.int p1)])) _
    refine XS.iand X0.here hx rfl (hb hby at_10) rfl ?_
    refine XS.iconst X0.here hx rfl (hb hby at_11) ?_
    show Steps p.tables e below (s₁.setTop (mkF m 12 #[.val (.int p0), .val (.int p1), .val (.int 1), .unset, .unset, .unset, .unset, .unset] [(.int 3), (.int (p1 &&& (2147483647 : Int32)))])) _
    refine iremM X0 hx rfl (hb hby at_12) rfl (by decide) ?_
    show Steps p.tables e below (s₁.setTop (mkF m 13 #[.val (.int p0), .val (.int p1), .val (.int 1), .unset, .unset, .unset, .unset, .unset] [(.int ((p1 &&& (2147483647 : Int32)) % (3 : Int32)))])) _
    rw [f2]
    refine XS.istoreN X0.here hx rfl (hb hby at_13) rfl (l' := #[.val (.int p0), .val (.int p1), .val (.int 1), .val (.int 1), .unset, .unset, .unset, .unset]) rfl ?_
    refine XS.iloadN X0.here hx rfl (hb hby at_14) rfl ?_
    show Steps p.tables e below (s₁.setTop (mkF m 15 #[.val (.int p0), .val (.int p1), .val (.int 1), .val (.int 1), .unset, .unset, .unset, .unset] [(.int 1)])) _
    refine st1 _ ?_
    refine XS.astore X1.here hx rfl (hb hby at_18) rfl rfl (l' := #[.val (.int p0), .val (.int p1), .val (.int 1), .val (.int 1), .val (.ref a_ONE_OR_MORE), .unset, .unset, .unset]) rfl ?_
    refine XS.iloadN X1.here hx rfl (hb hby at_20) rfl ?_
    show Steps p.tables e below (T1.setTop (mkF m 21 #[.val (.int p0), .val (.int p1), .val (.int 1), .val (.int 1), .val (.ref a_ONE_OR_MORE), .unset, .unset, .unset] [(.int 1)])) _
    refine st2 _ ?_
    refine XS.astore X2.here hx rfl (hb hby at_24) rfl rfl (l' := #[.val (.int p0), .val (.int p1), .val (.int 1), .val (.int 1), .val (.ref a_ONE_OR_MORE), .val (.ref a_ONE_OR_MORE), .unset, .unset]) rfl ?_
    refine XS.iloadN X2.here hx rfl (hb hby at_26) rfl ?_
    show Steps p.tables e below (T2.setTop (mkF m 27 #[.val (.int p0), .val (.int p1), .val (.int 1), .val (.int 1), .val (.ref a_ONE_OR_MORE), .val (.ref a_ONE_OR_MORE), .unset, .unset] [(.int 1)])) _
    refine st3 _ ?_
    refine XS.istore X3.here hx rfl (hb hby at_30) rfl (l' := #[.val (.int p0), .val (.int p1), .val (.int 1), .val (.int 1), .val (.ref a_ONE_OR_MORE), .val (.ref a_ONE_OR_MORE), .val (.int 0), .unset]) rfl ?_
    refine XS.iloadN X3.here hx rfl (hb hby at_32) rfl ?_
    show Steps p.tables e below (T3.setTop (mkF m 33 #[.val (.int p0), .val (.int p1), .val (.int 1), .val (.int 1), .val (.ref a_ONE_OR_MORE), .val (.ref a_ONE_OR_MORE), .val (.int 0), .unset] [(.int 1)])) _
    refine st4 _ ?_
    refine XS.istore X4.here hx rfl (hb hby at_36) rfl (l' := #[.val (.int p0), .val (.int p1), .val (.int 1), .val (.int 1), .val (.ref a_ONE_OR_MORE), .val (.ref a_ONE_OR_MORE), .val (.int 0), .val (.int 0)]) rfl ?_
    refine XS.aload X4.here hx rfl (hb hby at_38) rfl rfl ?_
    show Steps p.tables e below (T4.setTop (mkF m 40 #[.val (.int p0), .val (.int p1), .val (.int 1), .val (.int 1), .val (.ref a_ONE_OR_MORE), .val (.ref a_ONE_OR_MORE), .val (.int 0), .val (.int 0)] [(.ref a_ONE_OR_MORE)])) _
    refine st5.trans ?_
    refine XS.iload X5.here hx rfl (hb hby at_43) rfl ?_
    refine XS.icmpYes X5.here hx rfl (pc0 := 45) (pc' := 50) rfl (hb hby at_45) rfl (by decide) (by decide) (by decide) ?_
    refine XS.aload X5.here hx rfl (hb hby at_50) rfl rfl ?_
    show Steps p.tables e below (T5.setTop (mkF m 52 #[.val (.int p0), .val (.int p1), .val (.int 1), .val (.int 1), .val (.ref a_ONE_OR_MORE), .val (.ref a_ONE_OR_MORE), .val (.int 0), .val (.int 0)] [(.ref a_ONE_OR_MORE)])) _
    refine st6.trans ?_
    refine XS.iload X6.here hx rfl (hb hby at_55) rfl ?_
    refine XS.icmpYes X6.here hx rfl (pc0 := 57) (pc' := 62) rfl (hb hby at_57) rfl (by decide) (by decide) (by decide) ?_
    refine XS.aload X6.here hx rfl (hb hby at_62) rfl rfl ?_
    refine XS.aload X6.here hx rfl (hb hby at_64) rfl rfl ?_
    show Steps p.tables e below (T6.setTop (mkF m 66 #[.val (.int p0), .val (.int p1), .val (.int 1), .val (.int 1), .val (.ref a_ONE_OR_MORE), .val (.ref a_ONE_OR_MORE), .val (.int 0), .val (.int 0)] [(.ref a_ONE_OR_MORE), (.ref a_ONE_OR_MORE)])) _
    refine st7.trans ?_
    show Steps p.tables e below (T7.setTop (mkF m 69 #[.val (.int p0), .val (.int p1), .val (.int 1), .val (.int 1), .val (.ref a_ONE_OR_MORE), .val (.ref a_ONE_OR_MORE), .val (.int 0), .val (.int 0)] [(.ref a_ONE_OR_MORE)])) _
    refine st8.trans ?_
    refine XS.iload X8.here hx rfl (hb hby at_72) rfl ?_
    refine XS.ifNo X8.here hx rfl (hb hby at_74) rfl (by decide) ?_
    refine XS.iload X8.here hx rfl (hb hby at_77) rfl ?_
    refine XS.ifYes X8.here hx rfl (pc0 := 79) (pc' := 86) rfl (hb hby at_79) rfl (by decide) (by decide) (by decide) ?_
    show Steps p.tables e below (T8.setTop (mkF m 86 #[.val (.int p0), .val (.int p1), .val (.int 1), .val (.int 1), .val (.ref a_ONE_OR_MORE), .val (.ref a_ONE_OR_MORE), .val (.int 0), .val (.int 0)] [(.int 0)])) _
    refine XS.iconst X8.here hx rfl (hb hby at_86) ?_
    refine XS.icmpNo X8.here hx rfl (hb hby at_87) rfl (by decide) ?_
    refine XS.iconst X8.here hx rfl (hb hby at_90) ?_
    refine XS.goto X8.here hx rfl (pc0 := 91) (pc' := 95) rfl (hb hby at_91) (by decide) (by decide) ?_
    show Steps p.tables e below (T8.setTop (mkF m 95 #[.val (.int p0), .val (.int p1), .val (.int 1), .val (.int 1), .val (.ref a_ONE_OR_MORE), .val (.ref a_ONE_OR_MORE), .val (.int 0), .val (.int 0)] [(.int 1)])) _
    exact retN X8 hx (t := .boolean) Bd.returns (by simp) (hb hby at_95) hr
  · show QT n0 _ T8.heap _
    rw [e8]
    exact ⟨rfl, N8⟩
set_option maxRecDepth 65536 in
set_option maxHeartbeats 40000000 in
theorem rm4_32 (l : Launch) (Z : State) (a0 : Array Value) (hw : ∀ d ∈ tables_1, d.before a0 Z = true) (ws : List Jvm.Cond) (a_ONE_OR_MORE : Addr) (a_ZERO_OR_ONE : Addr) (a_ZERO_OR_MORE : Addr) (h0 : Heap) (n0 : Nat) (Z0 : n0 ≤ h0.size) (f1 : S_1 Z h0 (.ref a_ONE_OR_MORE)) (f2 : E_0 Z h0 a_ONE_OR_MORE) (f3 : a_ONE_OR_MORE ≠ a_ZERO_OR_ONE) (f4 : E_0 Z h0 a_ZERO_OR_ONE) (f5 : S_2 Z h0 (.ref a_ZERO_OR_ONE)) (f6 : S_0 Z h0 (.ref a_ZERO_OR_MORE)) :
    MetFree l M_4 (head1 (Jvm.Cond.code M_4 prog_118_method_6_code 3 (some (.object "com/example/pathwise/pathwise/sparql/PropertyPath$Repetition")) :: ws) R_1_0_0_12) (fun a U => a = #[(.ref a_ONE_OR_MORE), (.ref a_ZERO_OR_ONE)] ∧ Z.Warmed39 U.vm ∧ U.heap = h0) (fun _ _ _ _ _ => True) (fun _ U o U' => ∃ v L, o = .returned v ∧ QP (some (.ref a_ZERO_OR_MORE)) h0 n0 v U'.heap L ∧ FrameEnd U o U' L R_1_0_0_12.cells R_1_0_0_12.slots) := by
  refine MetFree.of_bodySF (plainFor_of_name pn_com_example_pathwise_pathwise_sparql_PropertyPath_Repetition) hisR ?_
  intro p e s m args below meth c s₁ Bd hml0 hP hK
  obtain ⟨rfl, hZ, hh⟩ := hP
  have hx := Bd.exec
  have hby := Bd.bytes
  have hml : c.maxLocals = 3 := hml0
  have hown : s.vm.findClass "com/example/pathwise/pathwise/sparql/PropertyPath$Repetition" = some m.cls := findClass_of_methodNamed Bd.named
  have hnm := (name_of_methodNamed Bd.named Bd.method).1
  have X0 : Stand p l e R_1_0_0_12 s m #[(.ref a_ONE_OR_MORE), (.ref a_ZERO_OR_ONE)] below meth c s₁ [] 0 0 := Stand.of_body Bd
  have e0 : s₁.heap = h0 := by rw [← hh, Bd.state]; rfl
  have N0 := Fr.nil n0
  -- pc 1: com/example/pathwise/pathwise/sparql/PropertyPath$Repetition.zeroLength
  obtain ⟨cq1, kq1, q1a, q1b, q1c⟩ := isOf hZ e0 f2
  obtain ⟨_, _, ⟨T1, L1, k1, n1⟩, -, X1, ⟨Lc1, hQ1, l1, y1, z1⟩, st1⟩ := X0.virtualBack hx (y := M_2) (z := M_2) hown (mvT hZ (tw_23 hw)) (mvT hZ (tw_12 hw)) (notFace_of_selects (args := #[]) (mvT hZ (tw_14 hw))) (mvT hZ (tw_14 hw)) (mvT hZ (tw_13 hw)) (by decide) (backOf (W := 0) (rm3_19 l Z a0 hw [] a_ONE_OR_MORE h0 n0 Z0 f1) hZ (tw_15 hw) (tw_6 hw) (by decide) (by decide)) q1a q1c (g := (mkF m 1 #[.val (.ref a_ONE_OR_MORE), .val (.ref a_ZERO_OR_ONE), .unset] [(.ref a_ONE_OR_MORE)])) rfl (by rw [hml]; rfl) (Steps.refl _) (argsL := []) (rest := []) (lenOf pd_2 rfl) rfl (by show 2 * 0 + _ ≤ _; exact Nat.le_of_eq rfl) (hb hby d4_1) (fun _ _ => ⟨rfl, e0, (by decide : 0 + 0 ≤ _), (by decide : 0 + 0 ≤ _)⟩)
  dsimp only [Pt.U, Pt.locs, Pt.cells, Pt.slots] at X1 l1 y1 z1 st1 hQ1
  subst l1 y1 z1
  obtain ⟨rfl, Nq1, e1⟩ := hQ1
  have N1 := Fr.app N0 Nq1
  -- pc 8: com/example/pathwise/pathwise/sparql/PropertyPath$Repetition.zeroLength
  obtain ⟨cq2, kq2, q2a, q2b, q2c⟩ := isOf hZ e1 f4
  obtain ⟨_, _, ⟨T2, L2, k2, n2⟩, -, X2, ⟨Lc2, hQ2, l2, y2, z2⟩, st2⟩ := X1.virtualBack hx (y := M_2) (z := M_2) hown (mvT hZ (tw_23 hw)) (mvT hZ (tw_12 hw)) (notFace_of_selects (args := #[]) (mvT hZ (tw_14 hw))) (mvT hZ (tw_14 hw)) (mvT hZ (tw_13 hw)) (by decide) (backOf (W := 0) (rm3_24 l Z a0 hw [] a_ZERO_OR_ONE a_ONE_OR_MORE h0 n0 Z0 f1 f3) hZ (tw_15 hw) (tw_6 hw) (by decide) (by decide)) q2a q2c (g := (mkF m 8 #[.val (.ref a_ONE_OR_MORE), .val (.ref a_ZERO_OR_ONE), .unset] [(.ref a_ZERO_OR_ONE)])) rfl (by rw [hml]; rfl) (Steps.refl _) (argsL := []) (rest := []) (lenOf pd_2 rfl) rfl (by show 2 * 0 + _ ≤ _; exact Nat.le_of_eq rfl) (hb hby d4_8) (fun _ _ => ⟨rfl, e1, (by decide : 0 + 0 ≤ _), (by decide : 0 + 0 ≤ _)⟩)
  dsimp only [Pt.U, Pt.locs, Pt.cells, Pt.slots] at X2 l2 y2 z2 st2 hQ2
  subst l2 y2 z2
  obtain ⟨rfl, Nq2, e2⟩ := hQ2
  have N2 := Fr.app N1 Nq2
  -- pc 21: com/example/pathwise/pathwise/sparql/PropertyPath$Repetition.unbounded
  obtain ⟨cq3, kq3, q3a, q3b, q3c⟩ := isOf hZ e2 f2
  obtain ⟨_, _, ⟨T3, L3, k3, n3⟩, -, X3, ⟨Lc3, hQ3, l3, y3, z3⟩, st3⟩ := X2.virtualBack hx (y := M_3) (z := M_3) hown (mvT hZ (tw_24 hw)) (mvT hZ (tw_25 hw)) (notFace_of_selects (args := #[]) (mvT hZ (tw_27 hw))) (mvT hZ (tw_27 hw)) (mvT hZ (tw_26 hw)) (by decide) (backOf (W := 0) (rm5_27 l Z a0 hw [] a_ONE_OR_MORE a_ZERO_OR_ONE h0 n0 Z0 f5 f3) hZ (tw_28 hw) (tw_6 hw) (by decide) (by decide)) q3a q3c (g := (mkF m 21 #[.val (.ref a_ONE_OR_MORE), .val (.ref a_ZERO_OR_ONE), .val (.int 1)] [(.ref a_ONE_OR_MORE)])) rfl (by rw [hml]; rfl) (Steps.refl _) (argsL := []) (rest := []) (lenOf pd_2 rfl) rfl (by show 2 * 0 + _ ≤ _; exact Nat.le_of_eq rfl) (hb hby d4_21) (fun _ _ => ⟨rfl, e2, (by decide : 0 + 0 ≤ _), (by decide : 0 + 0 ≤ _)⟩)
  dsimp only [Pt.U, Pt.locs, Pt.cells, Pt.slots] at X3 l3 y3 z3 st3 hQ3
  subst l3 y3 z3
  obtain ⟨rfl, Nq3, e3⟩ := hQ3
  have N3 := Fr.app N2 Nq3
  obtain ⟨T4, X4, e4, st4⟩ := getS2 X3 hx hZ hown (host := "") (Or.inl (tw_31 hw)) Via.refl e3 f6 (g := (mkF m 38 #[.val (.ref a_ONE_OR_MORE), .val (.ref a_ZERO_OR_ONE), .val (.int 1)] [])) rfl (hb hby d4_38)
  obtain ⟨fs, hr, hrun, hended, hW, hsame⟩ := X4.leave (v := (some (.ref a_ZERO_OR_MORE))) (fun h => by rw [Bd.returns] at h; cases h)
  refine ⟨_, _, castTop (ef4_RR m a_ONE_OR_MORE a_ZERO_OR_ONE) ?_, hrun, hended, _, _, rfl, ?_, ⟨_, rfl⟩, hW, hsame.mono (by decide) (by decide)⟩
  · show Steps p.tables e below (s₁.setTop (mkF m 0 #[.val (.ref a_ONE_OR_MORE), .val (.ref a_ZERO_OR_ONE), .unset] [])) _
    refine XS.aloadN X0.here hx rfl (hb hby d4_0) rfl rfl ?_
    show Steps p.tables e below (s₁.setTop (mkF m 1 #[.val (.ref a_ONE_OR_MORE), .val (.ref a_ZERO_OR_ONE), .unset] [(.ref a_ONE_OR_MORE)])) _
    refine st1.trans ?_
    refine XS.ifNo X1.here hx rfl (hb hby d4_4) rfl (by decide) ?_
    refine XS.aloadN X1.here hx rfl (hb hby d4_7) rfl rfl ?_
    show Steps p.tables e below (T1.setTop (mkF m 8 #[.val (.ref a_ONE_OR_MORE), .val (.ref a_ZERO_OR_ONE), .unset] [(.ref a_ZERO_OR_ONE)])) _
    refine st2.trans ?_
    refine XS.ifNo X2.here hx rfl (hb hby d4_11) rfl (by decide) ?_
    refine XS.iconst X2.here hx rfl (hb hby d4_14) ?_
    refine XS.goto X2.here hx rfl (pc0 := 15) (pc' := 19) rfl (hb hby d4_15) (by decide) (by decide) ?_
    refine XS.istoreN X2.here hx rfl (hb hby d4_19) rfl (l' := #[.val (.ref a_ONE_OR_MORE), .val (.ref a_ZERO_OR_ONE), .val (.int 1)]) rfl ?_
    show Steps p.tables e below (T2.setTop (mkF m 20 #[.val (.ref a_ONE_OR_MORE), .val (.ref a_ZERO_OR_ONE), .val (.int 1)] [])) _
    refine XS.aloadN X2.here hx rfl (hb hby d4_20) rfl rfl ?_
    show Steps p.tables e below (T2.setTop (mkF m 21 #[.val (.ref a_ONE_OR_MORE), .val (.ref a_ZERO_OR_ONE), .val (.int 1)] [(.ref a_ONE_OR_MORE)])) _
    refine st3.trans ?_
    refine XS.ifYes X3.here hx rfl (pc0 := 24) (pc' := 34) rfl (hb hby d4_24) rfl (by decide) (by decide) (by decide) ?_
    refine XS.iloadN X3.here hx rfl (hb hby d4_34) rfl ?_
    refine XS.ifNo X3.here hx rfl (hb hby d4_35) rfl (by decide) ?_
    show Steps p.tables e below (T3.setTop (mkF m 38 #[.val (.ref a_ONE_OR_MORE), .val (.ref a_ZERO_OR_ONE), .val (.int 1)] [])) _
    refine st4 _ ?_
    refine XS.goto X4.here hx rfl (pc0 := 41) (pc' := 47) rfl (hb hby d4_41) (by decide) (by decide) ?_
    show Steps p.tables e below (T4.setTop (mkF m 47 #[.val (.ref a_ONE_OR_MORE), .val (.ref a_ZERO_OR_ONE), .val (.int 1)] [(.ref a_ZERO_OR_MORE)])) _
    jvm_step X4.here [X4.here.top, hx, (hb hby d4_47), X4.method', Bd.returns, Value.isRef, FieldType.isReference]
    first | (intro acts; rw [hr _ acts rfl rfl rfl]) | rw [hr _ _ rfl rfl rfl]
    exact Steps.refl _
  · show QP (some (.ref a_ZERO_OR_MORE)) h0 n0 _ T4.heap _
    rw [e4]
    exact ⟨rfl, N3, rfl⟩
set_option maxRecDepth 65536 in
set_option maxHeartbeats 40000000 in
theorem rm0_33 (l : Launch) (Z : State) (a0 : Array Value) (hw : ∀ d ∈ tables_1, d.before a0 Z = true) (ws : List Jvm.Cond) (p0 : Int32) (p1 : Int32) (a_ONE_OR_MORE : Addr) (a_ZERO_OR_ONE : Addr) (a_ZERO_OR_MORE : Addr) (h0 : Heap) (n0 : Nat) (Z0 : n0 ≤ h0.size) (f1 : ((p0 &&& (2147483647 : Int32)) % (3 : Int32)) = (1 : Int32)) (f2 : ((p1 &&& (2147483647 : Int32)) % (3 : Int32)) = (2 : Int32)) (f3 : S_1 Z h0 (.ref a_ONE_OR_MORE)) (f4 : S_2 Z h0 (.ref a_ZERO_OR_ONE)) (f5 : E_0 Z h0 a_ONE_OR_MORE) (f6 : a_ONE_OR_MORE ≠ a_ZERO_OR_ONE) (f7 : E_0 Z h0 a_ZERO_OR_ONE) (f8 : S_0 Z h0 (.ref a_ZERO_OR_MORE)) (f9 : a_ZERO_OR_MORE ≠ a_ONE_OR_MORE) (f10 : E_0 Z h0 a_ZERO_OR_MORE) :
    MetFree l x (head1 (Jvm.Cond.code x code maxLocals ret :: ws) room_1) (fun a U => a = #[(.int p0), (.int p1)] ∧ Z.Warmed39 U.vm ∧ U.heap = h0) (fun _ _ _ _ _ => True) (fun _ U o U' => ∃ v L, o = .returned v ∧ QT n0 v U'.heap L ∧ FrameEnd U o U' L room_1.cells room_1.slots) := by
  refine MetFree.of_bodySF (plainFor_of_name pn_com_example_pathwise_pathwise_sparql_RepetitionZeroLengthPinLaw) hisR ?_
  intro p e s m args below meth c s₁ Bd hml0 hP hK
  obtain ⟨rfl, hZ, hh⟩ := hP
  have hx := Bd.exec
  have hby := Bd.bytes
  have hml : c.maxLocals = 8 := hml0
  have hown : s.vm.findClass "com/example/pathwise/pathwise/sparql/RepetitionZeroLengthPinLaw" = some m.cls := findClass_of_methodNamed Bd.named
  have hnm := (name_of_methodNamed Bd.named Bd.method).1
  have X0 : Stand p l e room_1 s m #[(.int p0), (.int p1)] below meth c s₁ [] 0 0 := Stand.of_body Bd
  have e0 : s₁.heap = h0 := by rw [← hh, Bd.state]; rfl
  have N0 := Fr.nil n0
  -- pc 15: com/example/pathwise/pathwise/sparql/RepetitionZeroLengthPinLaw.pick
  obtain ⟨_, _, ⟨T1, L1, k1, n1⟩, -, X1, ⟨Lc1, hQ1, l1, y1, z1⟩, st1⟩ := Jvm.LawKit.callS X0 hx (y := M_0) hown (mvT hZ (tw_1 hw)) (mvT hZ (tw_2 hw)) (mvT hZ (tw_3 hw)) (mvT hZ (tw_4 hw)) (by decide) (backOf (W := 0) (rm1_17 l Z a0 hw [] a_ONE_OR_MORE h0 n0 Z0 f3) hZ (tw_4 hw) (tw_3 hw) (by decide) (by decide)) (g := (mkF m 15 #[.val (.int p0), .val (.int p1), .val (.int 1), .val (.int 2), .unset, .unset, .unset, .unset] [(.int 1)])) rfl (by rw [hml]; rfl) (argsL := [(.int 1)]) (rest := []) (lenOf pd_0 rfl) rfl (by show 2 * 0 + _ ≤ _; exact Nat.le_of_eq rfl) (hb hby at_15) (fun _ _ => ⟨rfl, e0, (by decide : 0 + 0 ≤ _), (by decide : 0 + 0 ≤ _)⟩)
  dsimp only [Pt.U, Pt.locs, Pt.cells, Pt.slots] at X1 l1 y1 z1 st1 hQ1
  subst l1 y1 z1
  obtain ⟨rfl, Nq1, e1⟩ := hQ1
  have N1 := Fr.app N0 Nq1
  -- pc 21: com/example/pathwise/pathwise/sparql/RepetitionZeroLengthPinLaw.pick
  obtain ⟨_, _, ⟨T2, L2, k2, n2⟩, -, X2, ⟨Lc2, hQ2, l2, y2, z2⟩, st2⟩ := Jvm.LawKit.callS X1 hx (y := M_0) hown (mvT hZ (tw_1 hw)) (mvT hZ (tw_2 hw)) (mvT hZ (tw_3 hw)) (mvT hZ (tw_4 hw)) (by decide) (backOf (W := 0) (rm1_22 l Z a0 hw [] a_ZERO_OR_ONE h0 n0 Z0 f4) hZ (tw_4 hw) (tw_3 hw) (by decide) (by decide)) (g := (mkF m 21 #[.val (.int p0), .val (.int p1), .val (.int 1), .val (.int 2), .val (.ref a_ONE_OR_MORE), .unset, .unset, .unset] [(.int 2)])) rfl (by rw [hml]; rfl) (argsL := [(.int 2)]) (rest := []) (lenOf pd_0 rfl) rfl (by show 2 * 0 + _ ≤ _; exact Nat.le_of_eq rfl) (hb hby at_21) (fun _ _ => ⟨rfl, e1, (by decide : 0 + 0 ≤ _), (by decide : 0 + 0 ≤ _)⟩)
  dsimp only [Pt.U, Pt.locs, Pt.cells, Pt.slots] at X2 l2 y2 z2 st2 hQ2
  subst l2 y2 z2
  obtain ⟨rfl, Nq2, e2⟩ := hQ2
  have N2 := Fr.app N1 Nq2
  -- pc 27: com/example/pathwise/pathwise/sparql/RepetitionZeroLengthPinLaw.expected
  obtain ⟨_, _, ⟨T3, L3, k3, n3⟩, -, X3, ⟨Lc3, hQ3, l3, y3, z3⟩, st3⟩ := Jvm.LawKit.callS X2 hx (y := M_1) hown (mvT hZ (tw_8 hw)) (mvT hZ (tw_9 hw)) (mvT hZ (tw_3 hw)) (mvT hZ (tw_10 hw)) (by decide) (backOf (W := 0) (rm2_18 l Z a0 hw []  h0 n0 Z0 ) hZ (tw_10 hw) (tw_3 hw) (by decide) (by decide)) (g := (mkF m 27 #[.val (.int p0), .val (.int p1), .val (.int 1), .val (.int 2), .val (.ref a_ONE_OR_MORE), .val (.ref a_ZERO_OR_ONE), .unset, .unset] [(.int 1)])) rfl (by rw [hml]; rfl) (argsL := [(.int 1)]) (rest := []) (lenOf pd_1 rfl) rfl (by show 2 * 0 + _ ≤ _; exact Nat.le_of_eq rfl) (hb hby at_27) (fun _ _ => ⟨rfl, e2, (by decide : 0 + 0 ≤ _), (by decide : 0 + 0 ≤ _)⟩)
  dsimp only [Pt.U, Pt.locs, Pt.cells, Pt.slots] at X3 l3 y3 z3 st3 hQ3
  subst l3 y3 z3
  obtain ⟨rfl, Nq3, e3⟩ := hQ3
  have N3 := Fr.app N2 Nq3
  -- pc 33: com/example/pathwise/pathwise/sparql/RepetitionZeroLengthPinLaw.expected
  obtain ⟨_, _, ⟨T4, L4, k4, n4⟩, -, X4, ⟨Lc4, hQ4, l4, y4, z4⟩, st4⟩ := Jvm.LawKit.callS X3 hx (y := M_1) hown (mvT hZ (tw_8 hw)) (mvT hZ (tw_9 hw)) (mvT hZ (tw_3 hw)) (mvT hZ (tw_10 hw)) (by decide) (backOf (W := 0) (rm2_23 l Z a0 hw []  h0 n0 Z0 ) hZ (tw_10 hw) (tw_3 hw) (by decide) (by decide)) (g := (mkF m 33 #[.val (.int p0), .val (.int p1), .val (.int 1), .val (.int 2), .val (.ref a_ONE_OR_MORE), .val (.ref a_ZERO_OR_ONE), .val (.int 0), .unset] [(.int 2)])) rfl (by rw [hml]; rfl) (argsL := [(.int 2)]) (rest := []) (lenOf pd_1 rfl) rfl (by show 2 * 0 + _ ≤ _; exact Nat.le_of_eq rfl) (hb hby at_33) (fun _ _ => ⟨rfl, e3, (by decide : 0 + 0 ≤ _), (by decide : 0 + 0 ≤ _)⟩)
  dsimp only [Pt.U, Pt.locs, Pt.cells, Pt.slots] at X4 l4 y4 z4 st4 hQ4
  subst l4 y4 z4
  obtain ⟨rfl, Nq4, e4⟩ := hQ4
  have N4 := Fr.app N3 Nq4
  -- pc 40: com/example/pathwise/pathwise/sparql/PropertyPath$Repetition.zeroLength
  obtain ⟨cq5, kq5, q5a, q5b, q5c⟩ := isOf hZ e4 f5
  obtain ⟨_, _, ⟨T5, L5, k5, n5⟩, -, X5, ⟨Lc5, hQ5, l5, y5, z5⟩, st5⟩ := X4.virtualBack hx (y := M_2) (z := M_2) hown (mvT hZ (tw_11 hw)) (mvT hZ (tw_12 hw)) (notFace_of_selects (args := #[]) (mvT hZ (tw_14 hw))) (mvT hZ (tw_14 hw)) (mvT hZ (tw_13 hw)) (by decide) (backOf (W := 0) (rm3_19 l Z a0 hw [] a_ONE_OR_MORE h0 n0 Z0 f3) hZ (tw_15 hw) (tw_6 hw) (by decide) (by decide)) q5a q5c (g := (mkF m 40 #[.val (.int p0), .val (.int p1), .val (.int 1), .val (.int 2), .val (.ref a_ONE_OR_MORE), .val (.ref a_ZERO_OR_ONE), .val (.int 0), .val (.int 1)] [(.ref a_ONE_OR_MORE)])) rfl (by rw [hml]; rfl) (Steps.refl _) (argsL := []) (rest := []) (lenOf pd_2 rfl) rfl (by show 2 * 0 + _ ≤ _; exact Nat.le_of_eq rfl) (hb hby at_40) (fun _ _ => ⟨rfl, e4, (by decide : 0 + 0 ≤ _), (by decide : 0 + 0 ≤ _)⟩)
  dsimp only [Pt.U, Pt.locs, Pt.cells, Pt.slots] at X5 l5 y5 z5 st5 hQ5
  subst l5 y5 z5
  obtain ⟨rfl, Nq5, e5⟩ := hQ5
  have N5 := Fr.app N4 Nq5
  -- pc 52: com/example/pathwise/pathwise/sparql/PropertyPath$Repetition.zeroLength
  obtain ⟨cq6, kq6, q6a, q6b, q6c⟩ := isOf hZ e5 f7
  obtain ⟨_, _, ⟨T6, L6, k6, n6⟩, -, X6, ⟨Lc6, hQ6, l6, y6, z6⟩, st6⟩ := X5.virtualBack hx (y := M_2) (z := M_2) hown (mvT hZ (tw_11 hw)) (mvT hZ (tw_12 hw)) (notFace_of_selects (args := #[]) (mvT hZ (tw_14 hw))) (mvT hZ (tw_14 hw)) (mvT hZ (tw_13 hw)) (by decide) (backOf (W := 0) (rm3_24 l Z a0 hw [] a_ZERO_OR_ONE a_ONE_OR_MORE h0 n0 Z0 f3 f6) hZ (tw_15 hw) (tw_6 hw) (by decide) (by decide)) q6a q6c (g := (mkF m 52 #[.val (.int p0), .val (.int p1), .val (.int 1), .val (.int 2), .val (.ref a_ONE_OR_MORE), .val (.ref a_ZERO_OR_ONE), .val (.int 0), .val (.int 1)] [(.ref a_ZERO_OR_ONE)])) rfl (by rw [hml]; rfl) (Steps.refl _) (argsL := []) (rest := []) (lenOf pd_2 rfl) rfl (by show 2 * 0 + _ ≤ _; exact Nat.le_of_eq rfl) (hb hby at_52) (fun _ _ => ⟨rfl, e5, (by decide : 0 + 0 ≤ _), (by decide : 0 + 0 ≤ _)⟩)
  dsimp only [Pt.U, Pt.locs, Pt.cells, Pt.slots] at X6 l6 y6 z6 st6 hQ6
  subst l6 y6 z6
  obtain ⟨rfl, Nq6, e6⟩ := hQ6
  have N6 := Fr.app N5 Nq6
  -- pc 66: com/example/pathwise/pathwise/sparql/PropertyPath$Repetition.around
  obtain ⟨cq7, kq7, q7a, q7b, q7c⟩ := isOf hZ e6 f5
  obtain ⟨_, _, ⟨T7, L7, k7, n7⟩, -, X7, ⟨Lc7, hQ7, l7, y7, z7⟩, st7⟩ := X6.virtualBack hx (y := M_4) (z := M_4) hown (mvT hZ (tw_18 hw)) (mvT hZ (tw_19 hw)) (notFace_of_selects (args := #[]) (mvT hZ (tw_21 hw))) (mvT hZ (tw_21 hw)) (mvT hZ (tw_20 hw)) (by decide) (backOf (W := 0) (rm4_32 l Z a0 hw [] a_ONE_OR_MORE a_ZERO_OR_ONE a_ZERO_OR_MORE h0 n0 Z0 f3 f5 f6 f7 f4 f8) hZ (tw_22 hw) (tw_6 hw) (by decide) (by decide)) q7a q7c (g := (mkF m 66 #[.val (.int p0), .val (.int p1), .val (.int 1), .val (.int 2), .val (.ref a_ONE_OR_MORE), .val (.ref a_ZERO_OR_ONE), .val (.int 0), .val (.int 1)] [(.ref a_ZERO_OR_ONE), (.ref a_ONE_OR_MORE)])) rfl (by rw [hml]; rfl) (Steps.refl _) (argsL := [(.ref a_ZERO_OR_ONE)]) (rest := []) (lenOf pd_3 rfl) rfl (by show 2 * 0 + _ ≤ _; exact Nat.le_of_eq rfl) (hb hby at_66) (fun _ _ => ⟨rfl, e6, (by decide : 0 + 0 ≤ _), (by decide : 0 + 0 ≤ _)⟩)
  dsimp only [Pt.U, Pt.locs, Pt.cells, Pt.slots] at X7 l7 y7 z7 st7 hQ7
  subst l7 y7 z7
  obtain ⟨rfl, Nq7, e7⟩ := hQ7
  have N7 := Fr.app N6 Nq7
  -- pc 69: com/example/pathwise/pathwise/sparql/PropertyPath$Repetition.zeroLength
  obtain ⟨cq8, kq8, q8a, q8b, q8c⟩ := isOf hZ e7 f10
  obtain ⟨_, _, ⟨T8, L8, k8, n8⟩, -, X8, ⟨Lc8, hQ8, l8, y8, z8⟩, st8⟩ := X7.virtualBack hx (y := M_2) (z := M_2) hown (mvT hZ (tw_11 hw)) (mvT hZ (tw_12 hw)) (notFace_of_selects (args := #[]) (mvT hZ (tw_14 hw))) (mvT hZ (tw_14 hw)) (mvT hZ (tw_13 hw)) (by decide) (backOf (W := 0) (rm3_13 l Z a0 hw [] a_ZERO_OR_MORE a_ONE_OR_MORE h0 n0 Z0 f3 f9) hZ (tw_15 hw) (tw_6 hw) (by decide) (by decide)) q8a q8c (g := (mkF m 69 #[.val (.int p0), .val (.int p1), .val (.int 1), .val (.int 2), .val (.ref a_ONE_OR_MORE), .val (.ref a_ZERO_OR_ONE), .val (.int 0), .val (.int 1)] [(.ref a_ZERO_OR_MORE)])) rfl (by rw [hml]; rfl) (Steps.refl _) (argsL := []) (rest := []) (lenOf pd_2 rfl) rfl (by show 2 * 0 + _ ≤ _; exact Nat.le_of_eq rfl) (hb hby at_69) (fun _ _ => ⟨rfl, e7, (by decide : 0 + 0 ≤ _), (by decide : 0 + 0 ≤ _)⟩)
  dsimp only [Pt.U, Pt.locs, Pt.cells, Pt.slots] at X8 l8 y8 z8 st8 hQ8
  subst l8 y8 z8
  obtain ⟨rfl, Nq8, e8⟩ := hQ8
  have N8 := Fr.app N7 Nq8
  obtain ⟨fs, hr, hrun, hended, hW, hsame⟩ := X8.leave (v := (some (.int 1))) (fun h => by rw [Bd.returns] at h; cases h)
  refine ⟨_, _, castTop (ef0_II m p0 p1) ?_, hrun, hended, _, _, rfl, ?_, ⟨_, rfl⟩, hW, hsame.mono (by decide) (by decide)⟩
  · show Steps p.tables e below (s₁.setTop (mkF m 0 #[.val (.int p0), .val (.int p1), .unset, .unset, .unset, .unset, .unset, .unset] [])) _
    refine XS.iloadN X0.here hx rfl (hb hby at_0) rfl ?_
    show Steps p.tables e below (s₁.setTop (mkF m 1 #[.val (.int p0), .val (.int p1), .unset, .unset, .unset, .unset, .unset, .unset] [(.int p0)])) _
    refine X0.ldcInt hx hown (mvT hZ (tw_0 hw)) (g := (mkF m 1 #[.val (.int p0), .val (.int p1), .unset, .unset, .unset, .unset, .unset, .unset] [(.int p0)])) rfl (hb hby at_1) _ ?_
    show Steps p.tables e below (s₁.setTop (mkF m 3 #[.val (.int p0), .val (.int p1), .unset, .unset, .unset, .unset, .unset, .unset] [(.int 2147483647), (.int p0)])) _
    refine XS.iand X0.here hx rfl (hb hby at_3) rfl ?_
    refine XS.iconst X0.here hx rfl (hb hby at_4) ?_
    show Steps p.tables e below (s₁.setTop (mkF m 5 #[.val (.int p0), .val (.int p1), .unset, .unset, .unset, .unset, .unset, .unset] [(.int 3), (.int (p0 &&& (2147483647 : Int32)))])) _
    refine iremM X0 hx rfl (hb hby at_5) rfl (by decide) ?_
    show Steps p.tables e below (s₁.setTop (mkF m 6 #[.val (.int p0), .val (.int p1), .unset, .unset, .unset, .unset, .unset, .unset] [(.int ((p0 &&& (2147483647 : Int32)) % (3 : Int32)))])) _
    rw [f1]
    refine XS.istoreN X0.here hx rfl (hb hby at_6) rfl (l' := #[.val (.int p0), .val (.int p1), .val (.int 1), .unset, .unset, .unset, .unset, .unset]) rfl ?_
    refine XS.iloadN X0.here hx rfl (hb hby at_7) rfl ?_
    show Steps p.tables e below (s₁.setTop (mkF m 8 #[.val (.int p0), .val (.int p1), .val (.int 1), .unset, .unset, .unset, .unset, .unset] [(.int p1)])) _
    refine X0.ldcInt hx hown (mvT hZ (tw_0 hw)) (g := (mkF m 8 #[.val (.int p0), .val (.int p1), .val (.int 1), .unset, .unset, .unset, .unset, .unset] [(.int p1)])) rfl (hb hby at_8) _ ?_
    show Steps p.tables e below (s₁.setTop (mkF m 10 #[.val (.int p0), .val (.int p1), .val (.int 1), .unset, .unset, .unset, .unset, .unset] [(.int 2147483647), (.int p1)])) _
    refine XS.iand X0.here hx rfl (hb hby at_10) rfl ?_
    refine XS.iconst X0.here hx rfl (hb hby at_11) ?_
    show Steps p.tables e below (s₁.setTop (mkF m 12 #[.val (.int p0), .val (.int p1), .val (.int 1), .unset, .unset, .unset, .unset, .unset] [(.int 3), (.int (p1 &&& (2147483647 : Int32)))])) _
    refine iremM X0 hx rfl (hb hby at_12) rfl (by decide) ?_
    show Steps p.tables e below (s₁.setTop (mkF m 13 #[.val (.int p0), .val (.int p1), .val (.int 1), .unset, .unset, .unset, .unset, .unset] [(.int ((p1 &&& (2147483647 : Int32)) % (3 : Int32)))])) _
    rw [f2]
    refine XS.istoreN X0.here hx rfl (hb hby at_13) rfl (l' := #[.val (.int p0), .val (.int p1), .val (.int 1), .val (.int 2), .unset, .unset, .unset, .unset]) rfl ?_
    refine XS.iloadN X0.here hx rfl (hb hby at_14) rfl ?_
    show Steps p.tables e below (s₁.setTop (mkF m 15 #[.val (.int p0), .val (.int p1), .val (.int 1), .val (.int 2), .unset, .unset, .unset, .unset] [(.int 1)])) _
    refine st1 _ ?_
    refine XS.astore X1.here hx rfl (hb hby at_18) rfl rfl (l' := #[.val (.int p0), .val (.int p1), .val (.int 1), .val (.int 2), .val (.ref a_ONE_OR_MORE), .unset, .unset, .unset]) rfl ?_
    refine XS.iloadN X1.here hx rfl (hb hby at_20) rfl ?_
    show Steps p.tables e below (T1.setTop (mkF m 21 #[.val (.int p0), .val (.int p1), .val (.int 1), .val (.int 2), .val (.ref a_ONE_OR_MORE), .unset, .unset, .unset] [(.int 2)])) _
    refine st2 _ ?_
    refine XS.astore X2.here hx rfl (hb hby at_24) rfl rfl (l' := #[.val (.int p0), .val (.int p1), .val (.int 1), .val (.int 2), .val (.ref a_ONE_OR_MORE), .val (.ref a_ZERO_OR_ONE), .unset, .unset]) rfl ?_
    refine XS.iloadN X2.here hx rfl (hb hby at_26) rfl ?_
    show Steps p.tables e below (T2.setTop (mkF m 27 #[.val (.int p0), .val (.int p1), .val (.int 1), .val (.int 2), .val (.ref a_ONE_OR_MORE), .val (.ref a_ZERO_OR_ONE), .unset, .unset] [(.int 1)])) _
    refine st3 _ ?_
    refine XS.istore X3.here hx rfl (hb hby at_30) rfl (l' := #[.val (.int p0), .val (.int p1), .val (.int 1), .val (.int 2), .val (.ref a_ONE_OR_MORE), .val (.ref a_ZERO_OR_ONE), .val (.int 0), .unset]) rfl ?_
    refine XS.iloadN X3.here hx rfl (hb hby at_32) rfl ?_
    show Steps p.tables e below (T3.setTop (mkF m 33 #[.val (.int p0), .val (.int p1), .val (.int 1), .val (.int 2), .val (.ref a_ONE_OR_MORE), .val (.ref a_ZERO_OR_ONE), .val (.int 0), .unset] [(.int 2)])) _
    refine st4 _ ?_
    refine XS.istore X4.here hx rfl (hb hby at_36) rfl (l' := #[.val (.int p0), .val (.int p1), .val (.int 1), .val (.int 2), .val (.ref a_ONE_OR_MORE), .val (.ref a_ZERO_OR_ONE), .val (.int 0), .val (.int 1)]) rfl ?_
    refine XS.aload X4.here hx rfl (hb hby at_38) rfl rfl ?_
    show Steps p.tables e below (T4.setTop (mkF m 40 #[.val (.int p0), .val (.int p1), .val (.int 1), .val (.int 2), .val (.ref a_ONE_OR_MORE), .val (.ref a_ZERO_OR_ONE), .val (.int 0), .val (.int 1)] [(.ref a_ONE_OR_MORE)])) _
    refine st5.trans ?_
    refine XS.iload X5.here hx rfl (hb hby at_43) rfl ?_
    refine XS.icmpYes X5.here hx rfl (pc0 := 45) (pc' := 50) rfl (hb hby at_45) rfl (by decide) (by decide) (by decide) ?_
    refine XS.aload X5.here hx rfl (hb hby at_50) rfl rfl ?_
    show Steps p.tables e below (T5.setTop (mkF m 52 #[.val (.int p0), .val (.int p1), .val (.int 1), .val (.int 2), .val (.ref a_ONE_OR_MORE), .val (.ref a_ZERO_OR_ONE), .val (.int 0), .val (.int 1)] [(.ref a_ZERO_OR_ONE)])) _
    refine st6.trans ?_
    refine XS.iload X6.here hx rfl (hb hby at_55) rfl ?_
    refine XS.icmpYes X6.here hx rfl (pc0 := 57) (pc' := 62) rfl (hb hby at_57) rfl (by decide) (by decide) (by decide) ?_
    refine XS.aload X6.here hx rfl (hb hby at_62) rfl rfl ?_
    refine XS.aload X6.here hx rfl (hb hby at_64) rfl rfl ?_
    show Steps p.tables e below (T6.setTop (mkF m 66 #[.val (.int p0), .val (.int p1), .val (.int 1), .val (.int 2), .val (.ref a_ONE_OR_MORE), .val (.ref a_ZERO_OR_ONE), .val (.int 0), .val (.int 1)] [(.ref a_ZERO_OR_ONE), (.ref a_ONE_OR_MORE)])) _
    refine st7.trans ?_
    show Steps p.tables e below (T7.setTop (mkF m 69 #[.val (.int p0), .val (.int p1), .val (.int 1), .val (.int 2), .val (.ref a_ONE_OR_MORE), .val (.ref a_ZERO_OR_ONE), .val (.int 0), .val (.int 1)] [(.ref a_ZERO_OR_MORE)])) _
    refine st8.trans ?_
    refine XS.iload X8.here hx rfl (hb hby at_72) rfl ?_
    refine XS.ifNo X8.here hx rfl (hb hby at_74) rfl (by decide) ?_
    refine XS.iload X8.here hx rfl (hb hby at_77) rfl ?_
    refine XS.ifNo X8.here hx rfl (hb hby at_79) rfl (by decide) ?_
    show Steps p.tables e below (T8.setTop (mkF m 82 #[.val (.int p0), .val (.int p1), .val (.int 1), .val (.int 2), .val (.ref a_ONE_OR_MORE), .val (.ref a_ZERO_OR_ONE), .val (.int 0), .val (.int 1)] [(.int 1)])) _
    refine XS.iconst X8.here hx rfl (hb hby at_82) ?_
    refine XS.goto X8.here hx rfl (pc0 := 83) (pc' := 87) rfl (hb hby at_83) (by decide) (by decide) ?_
    refine XS.icmpNo X8.here hx rfl (hb hby at_87) rfl (by decide) ?_
    refine XS.iconst X8.here hx rfl (hb hby at_90) ?_
    refine XS.goto X8.here hx rfl (pc0 := 91) (pc' := 95) rfl (hb hby at_91) (by decide) (by decide) ?_
    show Steps p.tables e below (T8.setTop (mkF m 95 #[.val (.int p0), .val (.int p1), .val (.int 1), .val (.int 2), .val (.ref a_ONE_OR_MORE), .val (.ref a_ZERO_OR_ONE), .val (.int 0), .val (.int 1)] [(.int 1)])) _
    exact retN X8 hx (t := .boolean) Bd.returns (by simp) (hb hby at_95) hr
  · show QT n0 _ T8.heap _
    rw [e8]
    exact ⟨rfl, N8⟩
theorem d5_11 : decode prog_118_method_5_code 11 = .ok (.iconst 0, 1) := by decide +kernel
set_option maxRecDepth 65536 in
set_option maxHeartbeats 40000000 in
theorem rm5_34 (l : Launch) (Z : State) (a0 : Array Value) (hw : ∀ d ∈ tables_1, d.before a0 Z = true) (ws : List Jvm.Cond) (a_ZERO_OR_ONE : Addr) (h0 : Heap) (n0 : Nat) (Z0 : n0 ≤ h0.size) (f1 : S_2 Z h0 (.ref a_ZERO_OR_ONE)) :
    MetFree l M_3 (head1 (Jvm.Cond.code M_3 prog_118_method_5_code 1 (some .boolean) :: ws) R_0_0_0_0) (fun a U => a = #[(.ref a_ZERO_OR_ONE)] ∧ Z.Warmed39 U.vm ∧ U.heap = h0) (fun _ _ _ _ _ => True) (fun _ U o U' => ∃ v L, o = .returned v ∧ QP (some (.int 0)) h0 n0 v U'.heap L ∧ FrameEnd U o U' L R_0_0_0_0.cells R_0_0_0_0.slots) := by
  refine MetFree.of_bodySF (plainFor_of_name pn_com_example_pathwise_pathwise_sparql_PropertyPath_Repetition) hisR ?_
  intro p e s m args below meth c s₁ Bd hml0 hP hK
  obtain ⟨rfl, hZ, hh⟩ := hP
  have hx := Bd.exec
  have hby := Bd.bytes
  have hml : c.maxLocals = 1 := hml0
  have hown : s.vm.findClass "com/example/pathwise/pathwise/sparql/PropertyPath$Repetition" = some m.cls := findClass_of_methodNamed Bd.named
  have hnm := (name_of_methodNamed Bd.named Bd.method).1
  have X0 : Stand p l e R_0_0_0_0 s m #[(.ref a_ZERO_OR_ONE)] below meth c s₁ [] 0 0 := Stand.of_body Bd
  have e0 : s₁.heap = h0 := by rw [← hh, Bd.state]; rfl
  have N0 := Fr.nil n0
  obtain ⟨T1, X1, e1, st1⟩ := getS2 X0 hx hZ hown (host := "") (Or.inl (tw_29 hw)) Via.refl e0 f1 (g := (mkF m 1 #[.val (.ref a_ZERO_OR_ONE)] [(.ref a_ZERO_OR_ONE)])) rfl (hb hby d5_1)
  obtain ⟨fs, hr, hrun, hended, hW, hsame⟩ := X1.leave (v := (some (.int 0))) (fun h => by rw [Bd.returns] at h; cases h)
  refine ⟨_, _, castTop (ef5_R m a_ZERO_OR_ONE) ?_, hrun, hended, _, _, rfl, ?_, ⟨_, rfl⟩, hW, hsame.mono (by decide) (by decide)⟩
  · show Steps p.tables e below (s₁.setTop (mkF m 0 #[.val (.ref a_ZERO_OR_ONE)] [])) _
    refine XS.aloadN X0.here hx rfl (hb hby d5_0) rfl rfl ?_
    show Steps p.tables e below (s₁.setTop (mkF m 1 #[.val (.ref a_ZERO_OR_ONE)] [(.ref a_ZERO_OR_ONE)])) _
    refine st1 _ ?_
    show Steps p.tables e below (T1.setTop (mkF m 4 #[.val (.ref a_ZERO_OR_ONE)] [(.ref a_ZERO_OR_ONE), (.ref a_ZERO_OR_ONE)])) _
    refine Jvm.RoadKit.acmp (g := (mkF m 4 #[.val (.ref a_ZERO_OR_ONE)] [(.ref a_ZERO_OR_ONE), (.ref a_ZERO_OR_ONE)])) X1 hx rfl rfl rfl (pc0 := 4) (pc' := 11) (same := true) rfl (hb hby d5_4) rfl (decide_eq_true rfl) (by decide) (by decide) ?_
    refine XS.iconst X1.here hx rfl (hb hby d5_11) ?_
    show Steps p.tables e below (T1.setTop (mkF m 12 #[.val (.ref a_ZERO_OR_ONE)] [(.int 0)])) _
    exact retN X1 hx (t := .boolean) Bd.returns (by simp) (hb hby d5_12) hr
  · show QP (some (.int 0)) h0 n0 _ T1.heap _
    rw [e1]
    exact ⟨rfl, N0, rfl⟩
theorem d4_27 : decode prog_118_method_6_code 27 = .ok (.aload_n 1, 1) := by decide +kernel
theorem d4_28 : decode prog_118_method_6_code 28 = .ok (.invokevirtual 36, 3) := by decide +kernel
theorem d4_31 : decode prog_118_method_6_code 31 = .ok (.ifCond .eq 17, 3) := by decide +kernel
set_option maxRecDepth 65536 in
set_option maxHeartbeats 40000000 in
theorem rm4_35 (l : Launch) (Z : State) (a0 : Array Value) (hw : ∀ d ∈ tables_1, d.before a0 Z = true) (ws : List Jvm.Cond) (a_ZERO_OR_ONE : Addr) (a_ZERO_OR_MORE : Addr) (a_ONE_OR_MORE : Addr) (h0 : Heap) (n0 : Nat) (Z0 : n0 ≤ h0.size) (f1 : S_1 Z h0 (.ref a_ONE_OR_MORE)) (f2 : a_ONE_OR_MORE ≠ a_ZERO_OR_ONE) (f3 : E_0 Z h0 a_ZERO_OR_ONE) (f4 : S_2 Z h0 (.ref a_ZERO_OR_ONE)) (f5 : a_ZERO_OR_MORE ≠ a_ZERO_OR_ONE) (f6 : E_0 Z h0 a_ZERO_OR_MORE) (f7 : S_0 Z h0 (.ref a_ZERO_OR_MORE)) :
    MetFree l M_4 (head1 (Jvm.Cond.code M_4 prog_118_method_6_code 3 (some (.object "com/example/pathwise/pathwise/sparql/PropertyPath$Repetition")) :: ws) R_1_0_0_12) (fun a U => a = #[(.ref a_ZERO_OR_ONE), (.ref a_ZERO_OR_MORE)] ∧ Z.Warmed39 U.vm ∧ U.heap = h0) (fun _ _ _ _ _ => True) (fun _ U o U' => ∃ v L, o = .returned v ∧ QP (some (.ref a_ZERO_OR_MORE)) h0 n0 v U'.heap L ∧ FrameEnd U o U' L R_1_0_0_12.cells R_1_0_0_12.slots) := by
  refine MetFree.of_bodySF (plainFor_of_name pn_com_example_pathwise_pathwise_sparql_PropertyPath_Repetition) hisR ?_
  intro p e s m args below meth c s₁ Bd hml0 hP hK
  obtain ⟨rfl, hZ, hh⟩ := hP
  have hx := Bd.exec
  have hby := Bd.bytes
  have hml : c.maxLocals = 3 := hml0
  have hown : s.vm.findClass "com/example/pathwise/pathwise/sparql/PropertyPath$Repetition" = some m.cls := findClass_of_methodNamed Bd.named
  have hnm := (name_of_methodNamed Bd.named Bd.method).1
  have X0 : Stand p l e R_1_0_0_12 s m #[(.ref a_ZERO_OR_ONE), (.ref a_ZERO_OR_MORE)] below meth c s₁ [] 0 0 := Stand.of_body Bd
  have e0 : s₁.heap = h0 := by rw [← hh, Bd.state]; rfl
  have N0 := Fr.nil n0
  -- pc 1: com/example/pathwise/pathwise/sparql/PropertyPath$Repetition.zeroLength
  obtain ⟨cq1, kq1, q1a, q1b, q1c⟩ := isOf hZ e0 f3
  obtain ⟨_, _, ⟨T1, L1, k1, n1⟩, -, X1, ⟨Lc1, hQ1, l1, y1, z1⟩, st1⟩ := X0.virtualBack hx (y := M_2) (z := M_2) hown (mvT hZ (tw_23 hw)) (mvT hZ (tw_12 hw)) (notFace_of_selects (args := #[]) (mvT hZ (tw_14 hw))) (mvT hZ (tw_14 hw)) (mvT hZ (tw_13 hw)) (by decide) (backOf (W := 0) (rm3_24 l Z a0 hw [] a_ZERO_OR_ONE a_ONE_OR_MORE h0 n0 Z0 f1 f2) hZ (tw_15 hw) (tw_6 hw) (by decide) (by decide)) q1a q1c (g := (mkF m 1 #[.val (.ref a_ZERO_OR_ONE), .val (.ref a_ZERO_OR_MORE), .unset] [(.ref a_ZERO_OR_ONE)])) rfl (by rw [hml]; rfl) (Steps.refl _) (argsL := []) (rest := []) (lenOf pd_2 rfl) rfl (by show 2 * 0 + _ ≤ _; exact Nat.le_of_eq rfl) (hb hby d4_1) (fun _ _ => ⟨rfl, e0, (by decide : 0 + 0 ≤ _), (by decide : 0 + 0 ≤ _)⟩)
  dsimp only [Pt.U, Pt.locs, Pt.cells, Pt.slots] at X1 l1 y1 z1 st1 hQ1
  subst l1 y1 z1
  obtain ⟨rfl, Nq1, e1⟩ := hQ1
  have N1 := Fr.app N0 Nq1
  -- pc 21: com/example/pathwise/pathwise/sparql/PropertyPath$Repetition.unbounded
  obtain ⟨cq2, kq2, q2a, q2b, q2c⟩ := isOf hZ e1 f3
  obtain ⟨_, _, ⟨T2, L2, k2, n2⟩, -, X2, ⟨Lc2, hQ2, l2, y2, z2⟩, st2⟩ := X1.virtualBack hx (y := M_3) (z := M_3) hown (mvT hZ (tw_24 hw)) (mvT hZ (tw_25 hw)) (notFace_of_selects (args := #[]) (mvT hZ (tw_27 hw))) (mvT hZ (tw_27 hw)) (mvT hZ (tw_26 hw)) (by decide) (backOf (W := 0) (rm5_34 l Z a0 hw [] a_ZERO_OR_ONE h0 n0 Z0 f4) hZ (tw_28 hw) (tw_6 hw) (by decide) (by decide)) q2a q2c (g := (mkF m 21 #[.val (.ref a_ZERO_OR_ONE), .val (.ref a_ZERO_OR_MORE), .val (.int 1)] [(.ref a_ZERO_OR_ONE)])) rfl (by rw [hml]; rfl) (Steps.refl _) (argsL := []) (rest := []) (lenOf pd_2 rfl) rfl (by show 2 * 0 + _ ≤ _; exact Nat.le_of_eq rfl) (hb hby d4_21) (fun _ _ => ⟨rfl, e1, (by decide : 0 + 0 ≤ _), (by decide : 0 + 0 ≤ _)⟩)
  dsimp only [Pt.U, Pt.locs, Pt.cells, Pt.slots] at X2 l2 y2 z2 st2 hQ2
  subst l2 y2 z2
  obtain ⟨rfl, Nq2, e2⟩ := hQ2
  have N2 := Fr.app N1 Nq2
  -- pc 28: com/example/pathwise/pathwise/sparql/PropertyPath$Repetition.unbounded
  obtain ⟨cq3, kq3, q3a, q3b, q3c⟩ := isOf hZ e2 f6
  obtain ⟨_, _, ⟨T3, L3, k3, n3⟩, -, X3, ⟨Lc3, hQ3, l3, y3, z3⟩, st3⟩ := X2.virtualBack hx (y := M_3) (z := M_3) hown (mvT hZ (tw_24 hw)) (mvT hZ (tw_25 hw)) (notFace_of_selects (args := #[]) (mvT hZ (tw_27 hw))) (mvT hZ (tw_27 hw)) (mvT hZ (tw_26 hw)) (by decide) (backOf (W := 0) (rm5_14 l Z a0 hw [] a_ZERO_OR_MORE a_ZERO_OR_ONE h0 n0 Z0 f4 f5) hZ (tw_28 hw) (tw_6 hw) (by decide) (by decide)) q3a q3c (g := (mkF m 28 #[.val (.ref a_ZERO_OR_ONE), .val (.ref a_ZERO_OR_MORE), .val (.int 1)] [(.ref a_ZERO_OR_MORE)])) rfl (by rw [hml]; rfl) (Steps.refl _) (argsL := []) (rest := []) (lenOf pd_2 rfl) rfl (by show 2 * 0 + _ ≤ _; exact Nat.le_of_eq rfl) (hb hby d4_28) (fun _ _ => ⟨rfl, e2, (by decide : 0 + 0 ≤ _), (by decide : 0 + 0 ≤ _)⟩)
  dsimp only [Pt.U, Pt.locs, Pt.cells, Pt.slots] at X3 l3 y3 z3 st3 hQ3
  subst l3 y3 z3
  obtain ⟨rfl, Nq3, e3⟩ := hQ3
  have N3 := Fr.app N2 Nq3
  obtain ⟨T4, X4, e4, st4⟩ := getS2 X3 hx hZ hown (host := "") (Or.inl (tw_31 hw)) Via.refl e3 f7 (g := (mkF m 38 #[.val (.ref a_ZERO_OR_ONE), .val (.ref a_ZERO_OR_MORE), .val (.int 1)] [])) rfl (hb hby d4_38)
  obtain ⟨fs, hr, hrun, hended, hW, hsame⟩ := X4.leave (v := (some (.ref a_ZERO_OR_MORE))) (fun h => by rw [Bd.returns] at h; cases h)
  refine ⟨_, _, castTop (ef4_RR m a_ZERO_OR_ONE a_ZERO_OR_MORE) ?_, hrun, hended, _, _, rfl, ?_, ⟨_, rfl⟩, hW, hsame.mono (by decide) (by decide)⟩
  · show Steps p.tables e below (s₁.setTop (mkF m 0 #[.val (.ref a_ZERO_OR_ONE), .val (.ref a_ZERO_OR_MORE), .unset] [])) _
    refine XS.aloadN X0.here hx rfl (hb hby d4_0) rfl rfl ?_
    show Steps p.tables e below (s₁.setTop (mkF m 1 #[.val (.ref a_ZERO_OR_ONE), .val (.ref a_ZERO_OR_MORE), .unset] [(.ref a_ZERO_OR_ONE)])) _
    refine st1.trans ?_
    refine XS.ifYes X1.here hx rfl (pc0 := 4) (pc' := 14) rfl (hb hby d4_4) rfl (by decide) (by decide) (by decide) ?_
    refine XS.iconst X1.here hx rfl (hb hby d4_14) ?_
    refine XS.goto X1.here hx rfl (pc0 := 15) (pc' := 19) rfl (hb hby d4_15) (by decide) (by decide) ?_
    refine XS.istoreN X1.here hx rfl (hb hby d4_19) rfl (l' := #[.val (.ref a_ZERO_OR_ONE), .val (.ref a_ZERO_OR_MORE), .val (.int 1)]) rfl ?_
    show Steps p.tables e below (T1.setTop (mkF m 20 #[.val (.ref a_ZERO_OR_ONE), .val (.ref a_ZERO_OR_MORE), .val (.int 1)] [])) _
    refine XS.aloadN X1.here hx rfl (hb hby d4_20) rfl rfl ?_
    show Steps p.tables e below (T1.setTop (mkF m 21 #[.val (.ref a_ZERO_OR_ONE), .val (.ref a_ZERO_OR_MORE), .val (.int 1)] [(.ref a_ZERO_OR_ONE)])) _
    refine st2.trans ?_
    refine XS.ifNo X2.here hx rfl (hb hby d4_24) rfl (by decide) ?_
    refine XS.aloadN X2.here hx rfl (hb hby d4_27) rfl rfl ?_
    show Steps p.tables e below (T2.setTop (mkF m 28 #[.val (.ref a_ZERO_OR_ONE), .val (.ref a_ZERO_OR_MORE), .val (.int 1)] [(.ref a_ZERO_OR_MORE)])) _
    refine st3.trans ?_
    refine XS.ifNo X3.here hx rfl (hb hby d4_31) rfl (by decide) ?_
    refine XS.iloadN X3.here hx rfl (hb hby d4_34) rfl ?_
    refine XS.ifNo X3.here hx rfl (hb hby d4_35) rfl (by decide) ?_
    show Steps p.tables e below (T3.setTop (mkF m 38 #[.val (.ref a_ZERO_OR_ONE), .val (.ref a_ZERO_OR_MORE), .val (.int 1)] [])) _
    refine st4 _ ?_
    refine XS.goto X4.here hx rfl (pc0 := 41) (pc' := 47) rfl (hb hby d4_41) (by decide) (by decide) ?_
    show Steps p.tables e below (T4.setTop (mkF m 47 #[.val (.ref a_ZERO_OR_ONE), .val (.ref a_ZERO_OR_MORE), .val (.int 1)] [(.ref a_ZERO_OR_MORE)])) _
    jvm_step X4.here [X4.here.top, hx, (hb hby d4_47), X4.method', Bd.returns, Value.isRef, FieldType.isReference]
    first | (intro acts; rw [hr _ acts rfl rfl rfl]) | rw [hr _ _ rfl rfl rfl]
    exact Steps.refl _
  · show QP (some (.ref a_ZERO_OR_MORE)) h0 n0 _ T4.heap _
    rw [e4]
    exact ⟨rfl, N3, rfl⟩
set_option maxRecDepth 65536 in
set_option maxHeartbeats 40000000 in
theorem rm0_36 (l : Launch) (Z : State) (a0 : Array Value) (hw : ∀ d ∈ tables_1, d.before a0 Z = true) (ws : List Jvm.Cond) (p0 : Int32) (p1 : Int32) (a_ZERO_OR_ONE : Addr) (a_ZERO_OR_MORE : Addr) (a_ONE_OR_MORE : Addr) (h0 : Heap) (n0 : Nat) (Z0 : n0 ≤ h0.size) (f1 : ((p0 &&& (2147483647 : Int32)) % (3 : Int32)) = (2 : Int32)) (f2 : ((p1 &&& (2147483647 : Int32)) % (3 : Int32)) = (0 : Int32)) (f3 : S_2 Z h0 (.ref a_ZERO_OR_ONE)) (f4 : S_0 Z h0 (.ref a_ZERO_OR_MORE)) (f5 : S_1 Z h0 (.ref a_ONE_OR_MORE)) (f6 : a_ONE_OR_MORE ≠ a_ZERO_OR_ONE) (f7 : E_0 Z h0 a_ZERO_OR_ONE) (f8 : a_ZERO_OR_MORE ≠ a_ONE_OR_MORE) (f9 : E_0 Z h0 a_ZERO_OR_MORE) (f10 : a_ZERO_OR_MORE ≠ a_ZERO_OR_ONE) :
    MetFree l x (head1 (Jvm.Cond.code x code maxLocals ret :: ws) room_1) (fun a U => a = #[(.int p0), (.int p1)] ∧ Z.Warmed39 U.vm ∧ U.heap = h0) (fun _ _ _ _ _ => True) (fun _ U o U' => ∃ v L, o = .returned v ∧ QT n0 v U'.heap L ∧ FrameEnd U o U' L room_1.cells room_1.slots) := by
  refine MetFree.of_bodySF (plainFor_of_name pn_com_example_pathwise_pathwise_sparql_RepetitionZeroLengthPinLaw) hisR ?_
  intro p e s m args below meth c s₁ Bd hml0 hP hK
  obtain ⟨rfl, hZ, hh⟩ := hP
  have hx := Bd.exec
  have hby := Bd.bytes
  have hml : c.maxLocals = 8 := hml0
  have hown : s.vm.findClass "com/example/pathwise/pathwise/sparql/RepetitionZeroLengthPinLaw" = some m.cls := findClass_of_methodNamed Bd.named
  have hnm := (name_of_methodNamed Bd.named Bd.method).1
  have X0 : Stand p l e room_1 s m #[(.int p0), (.int p1)] below meth c s₁ [] 0 0 := Stand.of_body Bd
  have e0 : s₁.heap = h0 := by rw [← hh, Bd.state]; rfl
  have N0 := Fr.nil n0
  -- pc 15: com/example/pathwise/pathwise/sparql/RepetitionZeroLengthPinLaw.pick
  obtain ⟨_, _, ⟨T1, L1, k1, n1⟩, -, X1, ⟨Lc1, hQ1, l1, y1, z1⟩, st1⟩ := Jvm.LawKit.callS X0 hx (y := M_0) hown (mvT hZ (tw_1 hw)) (mvT hZ (tw_2 hw)) (mvT hZ (tw_3 hw)) (mvT hZ (tw_4 hw)) (by decide) (backOf (W := 0) (rm1_22 l Z a0 hw [] a_ZERO_OR_ONE h0 n0 Z0 f3) hZ (tw_4 hw) (tw_3 hw) (by decide) (by decide)) (g := (mkF m 15 #[.val (.int p0), .val (.int p1), .val (.int 2), .val (.int 0), .unset, .unset, .unset, .unset] [(.int 2)])) rfl (by rw [hml]; rfl) (argsL := [(.int 2)]) (rest := []) (lenOf pd_0 rfl) rfl (by show 2 * 0 + _ ≤ _; exact Nat.le_of_eq rfl) (hb hby at_15) (fun _ _ => ⟨rfl, e0, (by decide : 0 + 0 ≤ _), (by decide : 0 + 0 ≤ _)⟩)
  dsimp only [Pt.U, Pt.locs, Pt.cells, Pt.slots] at X1 l1 y1 z1 st1 hQ1
  subst l1 y1 z1
  obtain ⟨rfl, Nq1, e1⟩ := hQ1
  have N1 := Fr.app N0 Nq1
  -- pc 21: com/example/pathwise/pathwise/sparql/RepetitionZeroLengthPinLaw.pick
  obtain ⟨_, _, ⟨T2, L2, k2, n2⟩, -, X2, ⟨Lc2, hQ2, l2, y2, z2⟩, st2⟩ := Jvm.LawKit.callS X1 hx (y := M_0) hown (mvT hZ (tw_1 hw)) (mvT hZ (tw_2 hw)) (mvT hZ (tw_3 hw)) (mvT hZ (tw_4 hw)) (by decide) (backOf (W := 0) (rm1_11 l Z a0 hw [] a_ZERO_OR_MORE h0 n0 Z0 f4) hZ (tw_4 hw) (tw_3 hw) (by decide) (by decide)) (g := (mkF m 21 #[.val (.int p0), .val (.int p1), .val (.int 2), .val (.int 0), .val (.ref a_ZERO_OR_ONE), .unset, .unset, .unset] [(.int 0)])) rfl (by rw [hml]; rfl) (argsL := [(.int 0)]) (rest := []) (lenOf pd_0 rfl) rfl (by show 2 * 0 + _ ≤ _; exact Nat.le_of_eq rfl) (hb hby at_21) (fun _ _ => ⟨rfl, e1, (by decide : 0 + 0 ≤ _), (by decide : 0 + 0 ≤ _)⟩)
  dsimp only [Pt.U, Pt.locs, Pt.cells, Pt.slots] at X2 l2 y2 z2 st2 hQ2
  subst l2 y2 z2
  obtain ⟨rfl, Nq2, e2⟩ := hQ2
  have N2 := Fr.app N1 Nq2
  -- pc 27: com/example/pathwise/pathwise/sparql/RepetitionZeroLengthPinLaw.expected
  obtain ⟨_, _, ⟨T3, L3, k3, n3⟩, -, X3, ⟨Lc3, hQ3, l3, y3, z3⟩, st3⟩ := Jvm.LawKit.callS X2 hx (y := M_1) hown (mvT hZ (tw_8 hw)) (mvT hZ (tw_9 hw)) (mvT hZ (tw_3 hw)) (mvT hZ (tw_10 hw)) (by decide) (backOf (W := 0) (rm2_23 l Z a0 hw []  h0 n0 Z0 ) hZ (tw_10 hw) (tw_3 hw) (by decide) (by decide)) (g := (mkF m 27 #[.val (.int p0), .val (.int p1), .val (.int 2), .val (.int 0), .val (.ref a_ZERO_OR_ONE), .val (.ref a_ZERO_OR_MORE), .unset, .unset] [(.int 2)])) rfl (by rw [hml]; rfl) (argsL := [(.int 2)]) (rest := []) (lenOf pd_1 rfl) rfl (by show 2 * 0 + _ ≤ _; exact Nat.le_of_eq rfl) (hb hby at_27) (fun _ _ => ⟨rfl, e2, (by decide : 0 + 0 ≤ _), (by decide : 0 + 0 ≤ _)⟩)
  dsimp only [Pt.U, Pt.locs, Pt.cells, Pt.slots] at X3 l3 y3 z3 st3 hQ3
  subst l3 y3 z3
  obtain ⟨rfl, Nq3, e3⟩ := hQ3
  have N3 := Fr.app N2 Nq3
  -- pc 33: com/example/pathwise/pathwise/sparql/RepetitionZeroLengthPinLaw.expected
  obtain ⟨_, _, ⟨T4, L4, k4, n4⟩, -, X4, ⟨Lc4, hQ4, l4, y4, z4⟩, st4⟩ := Jvm.LawKit.callS X3 hx (y := M_1) hown (mvT hZ (tw_8 hw)) (mvT hZ (tw_9 hw)) (mvT hZ (tw_3 hw)) (mvT hZ (tw_10 hw)) (by decide) (backOf (W := 0) (rm2_12 l Z a0 hw []  h0 n0 Z0 ) hZ (tw_10 hw) (tw_3 hw) (by decide) (by decide)) (g := (mkF m 33 #[.val (.int p0), .val (.int p1), .val (.int 2), .val (.int 0), .val (.ref a_ZERO_OR_ONE), .val (.ref a_ZERO_OR_MORE), .val (.int 1), .unset] [(.int 0)])) rfl (by rw [hml]; rfl) (argsL := [(.int 0)]) (rest := []) (lenOf pd_1 rfl) rfl (by show 2 * 0 + _ ≤ _; exact Nat.le_of_eq rfl) (hb hby at_33) (fun _ _ => ⟨rfl, e3, (by decide : 0 + 0 ≤ _), (by decide : 0 + 0 ≤ _)⟩)
  dsimp only [Pt.U, Pt.locs, Pt.cells, Pt.slots] at X4 l4 y4 z4 st4 hQ4
  subst l4 y4 z4
  obtain ⟨rfl, Nq4, e4⟩ := hQ4
  have N4 := Fr.app N3 Nq4
  -- pc 40: com/example/pathwise/pathwise/sparql/PropertyPath$Repetition.zeroLength
  obtain ⟨cq5, kq5, q5a, q5b, q5c⟩ := isOf hZ e4 f7
  obtain ⟨_, _, ⟨T5, L5, k5, n5⟩, -, X5, ⟨Lc5, hQ5, l5, y5, z5⟩, st5⟩ := X4.virtualBack hx (y := M_2) (z := M_2) hown (mvT hZ (tw_11 hw)) (mvT hZ (tw_12 hw)) (notFace_of_selects (args := #[]) (mvT hZ (tw_14 hw))) (mvT hZ (tw_14 hw)) (mvT hZ (tw_13 hw)) (by decide) (backOf (W := 0) (rm3_24 l Z a0 hw [] a_ZERO_OR_ONE a_ONE_OR_MORE h0 n0 Z0 f5 f6) hZ (tw_15 hw) (tw_6 hw) (by decide) (by decide)) q5a q5c (g := (mkF m 40 #[.val (.int p0), .val (.int p1), .val (.int 2), .val (.int 0), .val (.ref a_ZERO_OR_ONE), .val (.ref a_ZERO_OR_MORE), .val (.int 1), .val (.int 1)] [(.ref a_ZERO_OR_ONE)])) rfl (by rw [hml]; rfl) (Steps.refl _) (argsL := []) (rest := []) (lenOf pd_2 rfl) rfl (by show 2 * 0 + _ ≤ _; exact Nat.le_of_eq rfl) (hb hby at_40) (fun _ _ => ⟨rfl, e4, (by decide : 0 + 0 ≤ _), (by decide : 0 + 0 ≤ _)⟩)
  dsimp only [Pt.U, Pt.locs, Pt.cells, Pt.slots] at X5 l5 y5 z5 st5 hQ5
  subst l5 y5 z5
  obtain ⟨rfl, Nq5, e5⟩ := hQ5
  have N5 := Fr.app N4 Nq5
  -- pc 52: com/example/pathwise/pathwise/sparql/PropertyPath$Repetition.zeroLength
  obtain ⟨cq6, kq6, q6a, q6b, q6c⟩ := isOf hZ e5 f9
  obtain ⟨_, _, ⟨T6, L6, k6, n6⟩, -, X6, ⟨Lc6, hQ6, l6, y6, z6⟩, st6⟩ := X5.virtualBack hx (y := M_2) (z := M_2) hown (mvT hZ (tw_11 hw)) (mvT hZ (tw_12 hw)) (notFace_of_selects (args := #[]) (mvT hZ (tw_14 hw))) (mvT hZ (tw_14 hw)) (mvT hZ (tw_13 hw)) (by decide) (backOf (W := 0) (rm3_13 l Z a0 hw [] a_ZERO_OR_MORE a_ONE_OR_MORE h0 n0 Z0 f5 f8) hZ (tw_15 hw) (tw_6 hw) (by decide) (by decide)) q6a q6c (g := (mkF m 52 #[.val (.int p0), .val (.int p1), .val (.int 2), .val (.int 0), .val (.ref a_ZERO_OR_ONE), .val (.ref a_ZERO_OR_MORE), .val (.int 1), .val (.int 1)] [(.ref a_ZERO_OR_MORE)])) rfl (by rw [hml]; rfl) (Steps.refl _) (argsL := []) (rest := []) (lenOf pd_2 rfl) rfl (by show 2 * 0 + _ ≤ _; exact Nat.le_of_eq rfl) (hb hby at_52) (fun _ _ => ⟨rfl, e5, (by decide : 0 + 0 ≤ _), (by decide : 0 + 0 ≤ _)⟩)
  dsimp only [Pt.U, Pt.locs, Pt.cells, Pt.slots] at X6 l6 y6 z6 st6 hQ6
  subst l6 y6 z6
  obtain ⟨rfl, Nq6, e6⟩ := hQ6
  have N6 := Fr.app N5 Nq6
  -- pc 66: com/example/pathwise/pathwise/sparql/PropertyPath$Repetition.around
  obtain ⟨cq7, kq7, q7a, q7b, q7c⟩ := isOf hZ e6 f7
  obtain ⟨_, _, ⟨T7, L7, k7, n7⟩, -, X7, ⟨Lc7, hQ7, l7, y7, z7⟩, st7⟩ := X6.virtualBack hx (y := M_4) (z := M_4) hown (mvT hZ (tw_18 hw)) (mvT hZ (tw_19 hw)) (notFace_of_selects (args := #[]) (mvT hZ (tw_21 hw))) (mvT hZ (tw_21 hw)) (mvT hZ (tw_20 hw)) (by decide) (backOf (W := 0) (rm4_35 l Z a0 hw [] a_ZERO_OR_ONE a_ZERO_OR_MORE a_ONE_OR_MORE h0 n0 Z0 f5 f6 f7 f3 f10 f9 f4) hZ (tw_22 hw) (tw_6 hw) (by decide) (by decide)) q7a q7c (g := (mkF m 66 #[.val (.int p0), .val (.int p1), .val (.int 2), .val (.int 0), .val (.ref a_ZERO_OR_ONE), .val (.ref a_ZERO_OR_MORE), .val (.int 1), .val (.int 1)] [(.ref a_ZERO_OR_MORE), (.ref a_ZERO_OR_ONE)])) rfl (by rw [hml]; rfl) (Steps.refl _) (argsL := [(.ref a_ZERO_OR_MORE)]) (rest := []) (lenOf pd_3 rfl) rfl (by show 2 * 0 + _ ≤ _; exact Nat.le_of_eq rfl) (hb hby at_66) (fun _ _ => ⟨rfl, e6, (by decide : 0 + 0 ≤ _), (by decide : 0 + 0 ≤ _)⟩)
  dsimp only [Pt.U, Pt.locs, Pt.cells, Pt.slots] at X7 l7 y7 z7 st7 hQ7
  subst l7 y7 z7
  obtain ⟨rfl, Nq7, e7⟩ := hQ7
  have N7 := Fr.app N6 Nq7
  -- pc 69: com/example/pathwise/pathwise/sparql/PropertyPath$Repetition.zeroLength
  obtain ⟨cq8, kq8, q8a, q8b, q8c⟩ := isOf hZ e7 f9
  obtain ⟨_, _, ⟨T8, L8, k8, n8⟩, -, X8, ⟨Lc8, hQ8, l8, y8, z8⟩, st8⟩ := X7.virtualBack hx (y := M_2) (z := M_2) hown (mvT hZ (tw_11 hw)) (mvT hZ (tw_12 hw)) (notFace_of_selects (args := #[]) (mvT hZ (tw_14 hw))) (mvT hZ (tw_14 hw)) (mvT hZ (tw_13 hw)) (by decide) (backOf (W := 0) (rm3_13 l Z a0 hw [] a_ZERO_OR_MORE a_ONE_OR_MORE h0 n0 Z0 f5 f8) hZ (tw_15 hw) (tw_6 hw) (by decide) (by decide)) q8a q8c (g := (mkF m 69 #[.val (.int p0), .val (.int p1), .val (.int 2), .val (.int 0), .val (.ref a_ZERO_OR_ONE), .val (.ref a_ZERO_OR_MORE), .val (.int 1), .val (.int 1)] [(.ref a_ZERO_OR_MORE)])) rfl (by rw [hml]; rfl) (Steps.refl _) (argsL := []) (rest := []) (lenOf pd_2 rfl) rfl (by show 2 * 0 + _ ≤ _; exact Nat.le_of_eq rfl) (hb hby at_69) (fun _ _ => ⟨rfl, e7, (by decide : 0 + 0 ≤ _), (by decide : 0 + 0 ≤ _)⟩)
  dsimp only [Pt.U, Pt.locs, Pt.cells, Pt.slots] at X8 l8 y8 z8 st8 hQ8
  subst l8 y8 z8
  obtain ⟨rfl, Nq8, e8⟩ := hQ8
  have N8 := Fr.app N7 Nq8
  obtain ⟨fs, hr, hrun, hended, hW, hsame⟩ := X8.leave (v := (some (.int 1))) (fun h => by rw [Bd.returns] at h; cases h)
  refine ⟨_, _, castTop (ef0_II m p0 p1) ?_, hrun, hended, _, _, rfl, ?_, ⟨_, rfl⟩, hW, hsame.mono (by decide) (by decide)⟩
  · show Steps p.tables e below (s₁.setTop (mkF m 0 #[.val (.int p0), .val (.int p1), .unset, .unset, .unset, .unset, .unset, .unset] [])) _
    refine XS.iloadN X0.here hx rfl (hb hby at_0) rfl ?_
    show Steps p.tables e below (s₁.setTop (mkF m 1 #[.val (.int p0), .val (.int p1), .unset, .unset, .unset, .unset, .unset, .unset] [(.int p0)])) _
    refine X0.ldcInt hx hown (mvT hZ (tw_0 hw)) (g := (mkF m 1 #[.val (.int p0), .val (.int p1), .unset, .unset, .unset, .unset, .unset, .unset] [(.int p0)])) rfl (hb hby at_1) _ ?_
    show Steps p.tables e below (s₁.setTop (mkF m 3 #[.val (.int p0), .val (.int p1), .unset, .unset, .unset, .unset, .unset, .unset] [(.int 2147483647), (.int p0)])) _
    refine XS.iand X0.here hx rfl (hb hby at_3) rfl ?_
    refine XS.iconst X0.here hx rfl (hb hby at_4) ?_
    show Steps p.tables e below (s₁.setTop (mkF m 5 #[.val (.int p0), .val (.int p1), .unset, .unset, .unset, .unset, .unset, .unset] [(.int 3), (.int (p0 &&& (2147483647 : Int32)))])) _
    refine iremM X0 hx rfl (hb hby at_5) rfl (by decide) ?_
    show Steps p.tables e below (s₁.setTop (mkF m 6 #[.val (.int p0), .val (.int p1), .unset, .unset, .unset, .unset, .unset, .unset] [(.int ((p0 &&& (2147483647 : Int32)) % (3 : Int32)))])) _
    rw [f1]
    refine XS.istoreN X0.here hx rfl (hb hby at_6) rfl (l' := #[.val (.int p0), .val (.int p1), .val (.int 2), .unset, .unset, .unset, .unset, .unset]) rfl ?_
    refine XS.iloadN X0.here hx rfl (hb hby at_7) rfl ?_
    show Steps p.tables e below (s₁.setTop (mkF m 8 #[.val (.int p0), .val (.int p1), .val (.int 2), .unset, .unset, .unset, .unset, .unset] [(.int p1)])) _
    refine X0.ldcInt hx hown (mvT hZ (tw_0 hw)) (g := (mkF m 8 #[.val (.int p0), .val (.int p1), .val (.int 2), .unset, .unset, .unset, .unset, .unset] [(.int p1)])) rfl (hb hby at_8) _ ?_
    show Steps p.tables e below (s₁.setTop (mkF m 10 #[.val (.int p0), .val (.int p1), .val (.int 2), .unset, .unset, .unset, .unset, .unset] [(.int 2147483647), (.int p1)])) _
    refine XS.iand X0.here hx rfl (hb hby at_10) rfl ?_
    refine XS.iconst X0.here hx rfl (hb hby at_11) ?_
    show Steps p.tables e below (s₁.setTop (mkF m 12 #[.val (.int p0), .val (.int p1), .val (.int 2), .unset, .unset, .unset, .unset, .unset] [(.int 3), (.int (p1 &&& (2147483647 : Int32)))])) _
    refine iremM X0 hx rfl (hb hby at_12) rfl (by decide) ?_
    show Steps p.tables e below (s₁.setTop (mkF m 13 #[.val (.int p0), .val (.int p1), .val (.int 2), .unset, .unset, .unset, .unset, .unset] [(.int ((p1 &&& (2147483647 : Int32)) % (3 : Int32)))])) _
    rw [f2]
    refine XS.istoreN X0.here hx rfl (hb hby at_13) rfl (l' := #[.val (.int p0), .val (.int p1), .val (.int 2), .val (.int 0), .unset, .unset, .unset, .unset]) rfl ?_
    refine XS.iloadN X0.here hx rfl (hb hby at_14) rfl ?_
    show Steps p.tables e below (s₁.setTop (mkF m 15 #[.val (.int p0), .val (.int p1), .val (.int 2), .val (.int 0), .unset, .unset, .unset, .unset] [(.int 2)])) _
    refine st1 _ ?_
    refine XS.astore X1.here hx rfl (hb hby at_18) rfl rfl (l' := #[.val (.int p0), .val (.int p1), .val (.int 2), .val (.int 0), .val (.ref a_ZERO_OR_ONE), .unset, .unset, .unset]) rfl ?_
    refine XS.iloadN X1.here hx rfl (hb hby at_20) rfl ?_
    show Steps p.tables e below (T1.setTop (mkF m 21 #[.val (.int p0), .val (.int p1), .val (.int 2), .val (.int 0), .val (.ref a_ZERO_OR_ONE), .unset, .unset, .unset] [(.int 0)])) _
    refine st2 _ ?_
    refine XS.astore X2.here hx rfl (hb hby at_24) rfl rfl (l' := #[.val (.int p0), .val (.int p1), .val (.int 2), .val (.int 0), .val (.ref a_ZERO_OR_ONE), .val (.ref a_ZERO_OR_MORE), .unset, .unset]) rfl ?_
    refine XS.iloadN X2.here hx rfl (hb hby at_26) rfl ?_
    show Steps p.tables e below (T2.setTop (mkF m 27 #[.val (.int p0), .val (.int p1), .val (.int 2), .val (.int 0), .val (.ref a_ZERO_OR_ONE), .val (.ref a_ZERO_OR_MORE), .unset, .unset] [(.int 2)])) _
    refine st3 _ ?_
    refine XS.istore X3.here hx rfl (hb hby at_30) rfl (l' := #[.val (.int p0), .val (.int p1), .val (.int 2), .val (.int 0), .val (.ref a_ZERO_OR_ONE), .val (.ref a_ZERO_OR_MORE), .val (.int 1), .unset]) rfl ?_
    refine XS.iloadN X3.here hx rfl (hb hby at_32) rfl ?_
    show Steps p.tables e below (T3.setTop (mkF m 33 #[.val (.int p0), .val (.int p1), .val (.int 2), .val (.int 0), .val (.ref a_ZERO_OR_ONE), .val (.ref a_ZERO_OR_MORE), .val (.int 1), .unset] [(.int 0)])) _
    refine st4 _ ?_
    refine XS.istore X4.here hx rfl (hb hby at_36) rfl (l' := #[.val (.int p0), .val (.int p1), .val (.int 2), .val (.int 0), .val (.ref a_ZERO_OR_ONE), .val (.ref a_ZERO_OR_MORE), .val (.int 1), .val (.int 1)]) rfl ?_
    refine XS.aload X4.here hx rfl (hb hby at_38) rfl rfl ?_
    show Steps p.tables e below (T4.setTop (mkF m 40 #[.val (.int p0), .val (.int p1), .val (.int 2), .val (.int 0), .val (.ref a_ZERO_OR_ONE), .val (.ref a_ZERO_OR_MORE), .val (.int 1), .val (.int 1)] [(.ref a_ZERO_OR_ONE)])) _
    refine st5.trans ?_
    refine XS.iload X5.here hx rfl (hb hby at_43) rfl ?_
    refine XS.icmpYes X5.here hx rfl (pc0 := 45) (pc' := 50) rfl (hb hby at_45) rfl (by decide) (by decide) (by decide) ?_
    refine XS.aload X5.here hx rfl (hb hby at_50) rfl rfl ?_
    show Steps p.tables e below (T5.setTop (mkF m 52 #[.val (.int p0), .val (.int p1), .val (.int 2), .val (.int 0), .val (.ref a_ZERO_OR_ONE), .val (.ref a_ZERO_OR_MORE), .val (.int 1), .val (.int 1)] [(.ref a_ZERO_OR_MORE)])) _
    refine st6.trans ?_
    refine XS.iload X6.here hx rfl (hb hby at_55) rfl ?_
    refine XS.icmpYes X6.here hx rfl (pc0 := 57) (pc' := 62) rfl (hb hby at_57) rfl (by decide) (by decide) (by decide) ?_
    refine XS.aload X6.here hx rfl (hb hby at_62) rfl rfl ?_
    refine XS.aload X6.here hx rfl (hb hby at_64) rfl rfl ?_
    show Steps p.tables e below (T6.setTop (mkF m 66 #[.val (.int p0), .val (.int p1), .val (.int 2), .val (.int 0), .val (.ref a_ZERO_OR_ONE), .val (.ref a_ZERO_OR_MORE), .val (.int 1), .val (.int 1)] [(.ref a_ZERO_OR_MORE), (.ref a_ZERO_OR_ONE)])) _
    refine st7.trans ?_
    show Steps p.tables e below (T7.setTop (mkF m 69 #[.val (.int p0), .val (.int p1), .val (.int 2), .val (.int 0), .val (.ref a_ZERO_OR_ONE), .val (.ref a_ZERO_OR_MORE), .val (.int 1), .val (.int 1)] [(.ref a_ZERO_OR_MORE)])) _
    refine st8.trans ?_
    refine XS.iload X8.here hx rfl (hb hby at_72) rfl ?_
    refine XS.ifYes X8.here hx rfl (pc0 := 74) (pc' := 82) rfl (hb hby at_74) rfl (by decide) (by decide) (by decide) ?_
    refine XS.iconst X8.here hx rfl (hb hby at_82) ?_
    refine XS.goto X8.here hx rfl (pc0 := 83) (pc' := 87) rfl (hb hby at_83) (by decide) (by decide) ?_
    show Steps p.tables e below (T8.setTop (mkF m 87 #[.val (.int p0), .val (.int p1), .val (.int 2), .val (.int 0), .val (.ref a_ZERO_OR_ONE), .val (.ref a_ZERO_OR_MORE), .val (.int 1), .val (.int 1)] [(.int 1), (.int 1)])) _
    refine XS.icmpNo X8.here hx rfl (hb hby at_87) rfl (by decide) ?_
    refine XS.iconst X8.here hx rfl (hb hby at_90) ?_
    refine XS.goto X8.here hx rfl (pc0 := 91) (pc' := 95) rfl (hb hby at_91) (by decide) (by decide) ?_
    show Steps p.tables e below (T8.setTop (mkF m 95 #[.val (.int p0), .val (.int p1), .val (.int 2), .val (.int 0), .val (.ref a_ZERO_OR_ONE), .val (.ref a_ZERO_OR_MORE), .val (.int 1), .val (.int 1)] [(.int 1)])) _
    exact retN X8 hx (t := .boolean) Bd.returns (by simp) (hb hby at_95) hr
  · show QT n0 _ T8.heap _
    rw [e8]
    exact ⟨rfl, N8⟩
set_option maxRecDepth 65536 in
set_option maxHeartbeats 40000000 in
theorem rm4_37 (l : Launch) (Z : State) (a0 : Array Value) (hw : ∀ d ∈ tables_1, d.before a0 Z = true) (ws : List Jvm.Cond) (a_ZERO_OR_ONE : Addr) (a_ONE_OR_MORE : Addr) (a_ZERO_OR_MORE : Addr) (h0 : Heap) (n0 : Nat) (Z0 : n0 ≤ h0.size) (f1 : S_1 Z h0 (.ref a_ONE_OR_MORE)) (f2 : a_ONE_OR_MORE ≠ a_ZERO_OR_ONE) (f3 : E_0 Z h0 a_ZERO_OR_ONE) (f4 : S_2 Z h0 (.ref a_ZERO_OR_ONE)) (f5 : E_0 Z h0 a_ONE_OR_MORE) (f6 : S_0 Z h0 (.ref a_ZERO_OR_MORE)) :
    MetFree l M_4 (head1 (Jvm.Cond.code M_4 prog_118_method_6_code 3 (some (.object "com/example/pathwise/pathwise/sparql/PropertyPath$Repetition")) :: ws) R_1_0_0_12) (fun a U => a = #[(.ref a_ZERO_OR_ONE), (.ref a_ONE_OR_MORE)] ∧ Z.Warmed39 U.vm ∧ U.heap = h0) (fun _ _ _ _ _ => True) (fun _ U o U' => ∃ v L, o = .returned v ∧ QP (some (.ref a_ZERO_OR_MORE)) h0 n0 v U'.heap L ∧ FrameEnd U o U' L R_1_0_0_12.cells R_1_0_0_12.slots) := by
  refine MetFree.of_bodySF (plainFor_of_name pn_com_example_pathwise_pathwise_sparql_PropertyPath_Repetition) hisR ?_
  intro p e s m args below meth c s₁ Bd hml0 hP hK
  obtain ⟨rfl, hZ, hh⟩ := hP
  have hx := Bd.exec
  have hby := Bd.bytes
  have hml : c.maxLocals = 3 := hml0
  have hown : s.vm.findClass "com/example/pathwise/pathwise/sparql/PropertyPath$Repetition" = some m.cls := findClass_of_methodNamed Bd.named
  have hnm := (name_of_methodNamed Bd.named Bd.method).1
  have X0 : Stand p l e R_1_0_0_12 s m #[(.ref a_ZERO_OR_ONE), (.ref a_ONE_OR_MORE)] below meth c s₁ [] 0 0 := Stand.of_body Bd
  have e0 : s₁.heap = h0 := by rw [← hh, Bd.state]; rfl
  have N0 := Fr.nil n0
  -- pc 1: com/example/pathwise/pathwise/sparql/PropertyPath$Repetition.zeroLength
  obtain ⟨cq1, kq1, q1a, q1b, q1c⟩ := isOf hZ e0 f3
  obtain ⟨_, _, ⟨T1, L1, k1, n1⟩, -, X1, ⟨Lc1, hQ1, l1, y1, z1⟩, st1⟩ := X0.virtualBack hx (y := M_2) (z := M_2) hown (mvT hZ (tw_23 hw)) (mvT hZ (tw_12 hw)) (notFace_of_selects (args := #[]) (mvT hZ (tw_14 hw))) (mvT hZ (tw_14 hw)) (mvT hZ (tw_13 hw)) (by decide) (backOf (W := 0) (rm3_24 l Z a0 hw [] a_ZERO_OR_ONE a_ONE_OR_MORE h0 n0 Z0 f1 f2) hZ (tw_15 hw) (tw_6 hw) (by decide) (by decide)) q1a q1c (g := (mkF m 1 #[.val (.ref a_ZERO_OR_ONE), .val (.ref a_ONE_OR_MORE), .unset] [(.ref a_ZERO_OR_ONE)])) rfl (by rw [hml]; rfl) (Steps.refl _) (argsL := []) (rest := []) (lenOf pd_2 rfl) rfl (by show 2 * 0 + _ ≤ _; exact Nat.le_of_eq rfl) (hb hby d4_1) (fun _ _ => ⟨rfl, e0, (by decide : 0 + 0 ≤ _), (by decide : 0 + 0 ≤ _)⟩)
  dsimp only [Pt.U, Pt.locs, Pt.cells, Pt.slots] at X1 l1 y1 z1 st1 hQ1
  subst l1 y1 z1
  obtain ⟨rfl, Nq1, e1⟩ := hQ1
  have N1 := Fr.app N0 Nq1
  -- pc 21: com/example/pathwise/pathwise/sparql/PropertyPath$Repetition.unbounded
  obtain ⟨cq2, kq2, q2a, q2b, q2c⟩ := isOf hZ e1 f3
  obtain ⟨_, _, ⟨T2, L2, k2, n2⟩, -, X2, ⟨Lc2, hQ2, l2, y2, z2⟩, st2⟩ := X1.virtualBack hx (y := M_3) (z := M_3) hown (mvT hZ (tw_24 hw)) (mvT hZ (tw_25 hw)) (notFace_of_selects (args := #[]) (mvT hZ (tw_27 hw))) (mvT hZ (tw_27 hw)) (mvT hZ (tw_26 hw)) (by decide) (backOf (W := 0) (rm5_34 l Z a0 hw [] a_ZERO_OR_ONE h0 n0 Z0 f4) hZ (tw_28 hw) (tw_6 hw) (by decide) (by decide)) q2a q2c (g := (mkF m 21 #[.val (.ref a_ZERO_OR_ONE), .val (.ref a_ONE_OR_MORE), .val (.int 1)] [(.ref a_ZERO_OR_ONE)])) rfl (by rw [hml]; rfl) (Steps.refl _) (argsL := []) (rest := []) (lenOf pd_2 rfl) rfl (by show 2 * 0 + _ ≤ _; exact Nat.le_of_eq rfl) (hb hby d4_21) (fun _ _ => ⟨rfl, e1, (by decide : 0 + 0 ≤ _), (by decide : 0 + 0 ≤ _)⟩)
  dsimp only [Pt.U, Pt.locs, Pt.cells, Pt.slots] at X2 l2 y2 z2 st2 hQ2
  subst l2 y2 z2
  obtain ⟨rfl, Nq2, e2⟩ := hQ2
  have N2 := Fr.app N1 Nq2
  -- pc 28: com/example/pathwise/pathwise/sparql/PropertyPath$Repetition.unbounded
  obtain ⟨cq3, kq3, q3a, q3b, q3c⟩ := isOf hZ e2 f5
  obtain ⟨_, _, ⟨T3, L3, k3, n3⟩, -, X3, ⟨Lc3, hQ3, l3, y3, z3⟩, st3⟩ := X2.virtualBack hx (y := M_3) (z := M_3) hown (mvT hZ (tw_24 hw)) (mvT hZ (tw_25 hw)) (notFace_of_selects (args := #[]) (mvT hZ (tw_27 hw))) (mvT hZ (tw_27 hw)) (mvT hZ (tw_26 hw)) (by decide) (backOf (W := 0) (rm5_27 l Z a0 hw [] a_ONE_OR_MORE a_ZERO_OR_ONE h0 n0 Z0 f4 f2) hZ (tw_28 hw) (tw_6 hw) (by decide) (by decide)) q3a q3c (g := (mkF m 28 #[.val (.ref a_ZERO_OR_ONE), .val (.ref a_ONE_OR_MORE), .val (.int 1)] [(.ref a_ONE_OR_MORE)])) rfl (by rw [hml]; rfl) (Steps.refl _) (argsL := []) (rest := []) (lenOf pd_2 rfl) rfl (by show 2 * 0 + _ ≤ _; exact Nat.le_of_eq rfl) (hb hby d4_28) (fun _ _ => ⟨rfl, e2, (by decide : 0 + 0 ≤ _), (by decide : 0 + 0 ≤ _)⟩)
  dsimp only [Pt.U, Pt.locs, Pt.cells, Pt.slots] at X3 l3 y3 z3 st3 hQ3
  subst l3 y3 z3
  obtain ⟨rfl, Nq3, e3⟩ := hQ3
  have N3 := Fr.app N2 Nq3
  obtain ⟨T4, X4, e4, st4⟩ := getS2 X3 hx hZ hown (host := "") (Or.inl (tw_31 hw)) Via.refl e3 f6 (g := (mkF m 38 #[.val (.ref a_ZERO_OR_ONE), .val (.ref a_ONE_OR_MORE), .val (.int 1)] [])) rfl (hb hby d4_38)
  obtain ⟨fs, hr, hrun, hended, hW, hsame⟩ := X4.leave (v := (some (.ref a_ZERO_OR_MORE))) (fun h => by rw [Bd.returns] at h; cases h)
  refine ⟨_, _, castTop (ef4_RR m a_ZERO_OR_ONE a_ONE_OR_MORE) ?_, hrun, hended, _, _, rfl, ?_, ⟨_, rfl⟩, hW, hsame.mono (by decide) (by decide)⟩
  · show Steps p.tables e below (s₁.setTop (mkF m 0 #[.val (.ref a_ZERO_OR_ONE), .val (.ref a_ONE_OR_MORE), .unset] [])) _
    refine XS.aloadN X0.here hx rfl (hb hby d4_0) rfl rfl ?_
    show Steps p.tables e below (s₁.setTop (mkF m 1 #[.val (.ref a_ZERO_OR_ONE), .val (.ref a_ONE_OR_MORE), .unset] [(.ref a_ZERO_OR_ONE)])) _
    refine st1.trans ?_
    refine XS.ifYes X1.here hx rfl (pc0 := 4) (pc' := 14) rfl (hb hby d4_4) rfl (by decide) (by decide) (by decide) ?_
    refine XS.iconst X1.here hx rfl (hb hby d4_14) ?_
    refine XS.goto X1.here hx rfl (pc0 := 15) (pc' := 19) rfl (hb hby d4_15) (by decide) (by decide) ?_
    refine XS.istoreN X1.here hx rfl (hb hby d4_19) rfl (l' := #[.val (.ref a_ZERO_OR_ONE), .val (.ref a_ONE_OR_MORE), .val (.int 1)]) rfl ?_
    show Steps p.tables e below (T1.setTop (mkF m 20 #[.val (.ref a_ZERO_OR_ONE), .val (.ref a_ONE_OR_MORE), .val (.int 1)] [])) _
    refine XS.aloadN X1.here hx rfl (hb hby d4_20) rfl rfl ?_
    show Steps p.tables e below (T1.setTop (mkF m 21 #[.val (.ref a_ZERO_OR_ONE), .val (.ref a_ONE_OR_MORE), .val (.int 1)] [(.ref a_ZERO_OR_ONE)])) _
    refine st2.trans ?_
    refine XS.ifNo X2.here hx rfl (hb hby d4_24) rfl (by decide) ?_
    refine XS.aloadN X2.here hx rfl (hb hby d4_27) rfl rfl ?_
    show Steps p.tables e below (T2.setTop (mkF m 28 #[.val (.ref a_ZERO_OR_ONE), .val (.ref a_ONE_OR_MORE), .val (.int 1)] [(.ref a_ONE_OR_MORE)])) _
    refine st3.trans ?_
    refine XS.ifNo X3.here hx rfl (hb hby d4_31) rfl (by decide) ?_
    refine XS.iloadN X3.here hx rfl (hb hby d4_34) rfl ?_
    refine XS.ifNo X3.here hx rfl (hb hby d4_35) rfl (by decide) ?_
    show Steps p.tables e below (T3.setTop (mkF m 38 #[.val (.ref a_ZERO_OR_ONE), .val (.ref a_ONE_OR_MORE), .val (.int 1)] [])) _
    refine st4 _ ?_
    refine XS.goto X4.here hx rfl (pc0 := 41) (pc' := 47) rfl (hb hby d4_41) (by decide) (by decide) ?_
    show Steps p.tables e below (T4.setTop (mkF m 47 #[.val (.ref a_ZERO_OR_ONE), .val (.ref a_ONE_OR_MORE), .val (.int 1)] [(.ref a_ZERO_OR_MORE)])) _
    jvm_step X4.here [X4.here.top, hx, (hb hby d4_47), X4.method', Bd.returns, Value.isRef, FieldType.isReference]
    first | (intro acts; rw [hr _ acts rfl rfl rfl]) | rw [hr _ _ rfl rfl rfl]
    exact Steps.refl _
  · show QP (some (.ref a_ZERO_OR_MORE)) h0 n0 _ T4.heap _
    rw [e4]
    exact ⟨rfl, N3, rfl⟩
set_option maxRecDepth 65536 in
set_option maxHeartbeats 40000000 in
theorem rm0_38 (l : Launch) (Z : State) (a0 : Array Value) (hw : ∀ d ∈ tables_1, d.before a0 Z = true) (ws : List Jvm.Cond) (p0 : Int32) (p1 : Int32) (a_ZERO_OR_ONE : Addr) (a_ONE_OR_MORE : Addr) (a_ZERO_OR_MORE : Addr) (h0 : Heap) (n0 : Nat) (Z0 : n0 ≤ h0.size) (f1 : ((p0 &&& (2147483647 : Int32)) % (3 : Int32)) = (2 : Int32)) (f2 : ((p1 &&& (2147483647 : Int32)) % (3 : Int32)) = (1 : Int32)) (f3 : S_2 Z h0 (.ref a_ZERO_OR_ONE)) (f4 : S_1 Z h0 (.ref a_ONE_OR_MORE)) (f5 : a_ONE_OR_MORE ≠ a_ZERO_OR_ONE) (f6 : E_0 Z h0 a_ZERO_OR_ONE) (f7 : E_0 Z h0 a_ONE_OR_MORE) (f8 : S_0 Z h0 (.ref a_ZERO_OR_MORE)) (f9 : a_ZERO_OR_MORE ≠ a_ONE_OR_MORE) (f10 : E_0 Z h0 a_ZERO_OR_MORE) :
    MetFree l x (head1 (Jvm.Cond.code x code maxLocals ret :: ws) room_1) (fun a U => a = #[(.int p0), (.int p1)] ∧ Z.Warmed39 U.vm ∧ U.heap = h0) (fun _ _ _ _ _ => True) (fun _ U o U' => ∃ v L, o = .returned v ∧ QT n0 v U'.heap L ∧ FrameEnd U o U' L room_1.cells room_1.slots) := by
  refine MetFree.of_bodySF (plainFor_of_name pn_com_example_pathwise_pathwise_sparql_RepetitionZeroLengthPinLaw) hisR ?_
  intro p e s m args below meth c s₁ Bd hml0 hP hK
  obtain ⟨rfl, hZ, hh⟩ := hP
  have hx := Bd.exec
  have hby := Bd.bytes
  have hml : c.maxLocals = 8 := hml0
  have hown : s.vm.findClass "com/example/pathwise/pathwise/sparql/RepetitionZeroLengthPinLaw" = some m.cls := findClass_of_methodNamed Bd.named
  have hnm := (name_of_methodNamed Bd.named Bd.method).1
  have X0 : Stand p l e room_1 s m #[(.int p0), (.int p1)] below meth c s₁ [] 0 0 := Stand.of_body Bd
  have e0 : s₁.heap = h0 := by rw [← hh, Bd.state]; rfl
  have N0 := Fr.nil n0
  -- pc 15: com/example/pathwise/pathwise/sparql/RepetitionZeroLengthPinLaw.pick
  obtain ⟨_, _, ⟨T1, L1, k1, n1⟩, -, X1, ⟨Lc1, hQ1, l1, y1, z1⟩, st1⟩ := Jvm.LawKit.callS X0 hx (y := M_0) hown (mvT hZ (tw_1 hw)) (mvT hZ (tw_2 hw)) (mvT hZ (tw_3 hw)) (mvT hZ (tw_4 hw)) (by decide) (backOf (W := 0) (rm1_22 l Z a0 hw [] a_ZERO_OR_ONE h0 n0 Z0 f3) hZ (tw_4 hw) (tw_3 hw) (by decide) (by decide)) (g := (mkF m 15 #[.val (.int p0), .val (.int p1), .val (.int 2), .val (.int 1), .unset, .unset, .unset, .unset] [(.int 2)])) rfl (by rw [hml]; rfl) (argsL := [(.int 2)]) (rest := []) (lenOf pd_0 rfl) rfl (by show 2 * 0 + _ ≤ _; exact Nat.le_of_eq rfl) (hb hby at_15) (fun _ _ => ⟨rfl, e0, (by decide : 0 + 0 ≤ _), (by decide : 0 + 0 ≤ _)⟩)
  dsimp only [Pt.U, Pt.locs, Pt.cells, Pt.slots] at X1 l1 y1 z1 st1 hQ1
  subst l1 y1 z1
  obtain ⟨rfl, Nq1, e1⟩ := hQ1
  have N1 := Fr.app N0 Nq1
  -- pc 21: com/example/pathwise/pathwise/sparql/RepetitionZeroLengthPinLaw.pick
  obtain ⟨_, _, ⟨T2, L2, k2, n2⟩, -, X2, ⟨Lc2, hQ2, l2, y2, z2⟩, st2⟩ := Jvm.LawKit.callS X1 hx (y := M_0) hown (mvT hZ (tw_1 hw)) (mvT hZ (tw_2 hw)) (mvT hZ (tw_3 hw)) (mvT hZ (tw_4 hw)) (by decide) (backOf (W := 0) (rm1_17 l Z a0 hw [] a_ONE_OR_MORE h0 n0 Z0 f4) hZ (tw_4 hw) (tw_3 hw) (by decide) (by decide)) (g := (mkF m 21 #[.val (.int p0), .val (.int p1), .val (.int 2), .val (.int 1), .val (.ref a_ZERO_OR_ONE), .unset, .unset, .unset] [(.int 1)])) rfl (by rw [hml]; rfl) (argsL := [(.int 1)]) (rest := []) (lenOf pd_0 rfl) rfl (by show 2 * 0 + _ ≤ _; exact Nat.le_of_eq rfl) (hb hby at_21) (fun _ _ => ⟨rfl, e1, (by decide : 0 + 0 ≤ _), (by decide : 0 + 0 ≤ _)⟩)
  dsimp only [Pt.U, Pt.locs, Pt.cells, Pt.slots] at X2 l2 y2 z2 st2 hQ2
  subst l2 y2 z2
  obtain ⟨rfl, Nq2, e2⟩ := hQ2
  have N2 := Fr.app N1 Nq2
  -- pc 27: com/example/pathwise/pathwise/sparql/RepetitionZeroLengthPinLaw.expected
  obtain ⟨_, _, ⟨T3, L3, k3, n3⟩, -, X3, ⟨Lc3, hQ3, l3, y3, z3⟩, st3⟩ := Jvm.LawKit.callS X2 hx (y := M_1) hown (mvT hZ (tw_8 hw)) (mvT hZ (tw_9 hw)) (mvT hZ (tw_3 hw)) (mvT hZ (tw_10 hw)) (by decide) (backOf (W := 0) (rm2_23 l Z a0 hw []  h0 n0 Z0 ) hZ (tw_10 hw) (tw_3 hw) (by decide) (by decide)) (g := (mkF m 27 #[.val (.int p0), .val (.int p1), .val (.int 2), .val (.int 1), .val (.ref a_ZERO_OR_ONE), .val (.ref a_ONE_OR_MORE), .unset, .unset] [(.int 2)])) rfl (by rw [hml]; rfl) (argsL := [(.int 2)]) (rest := []) (lenOf pd_1 rfl) rfl (by show 2 * 0 + _ ≤ _; exact Nat.le_of_eq rfl) (hb hby at_27) (fun _ _ => ⟨rfl, e2, (by decide : 0 + 0 ≤ _), (by decide : 0 + 0 ≤ _)⟩)
  dsimp only [Pt.U, Pt.locs, Pt.cells, Pt.slots] at X3 l3 y3 z3 st3 hQ3
  subst l3 y3 z3
  obtain ⟨rfl, Nq3, e3⟩ := hQ3
  have N3 := Fr.app N2 Nq3
  -- pc 33: com/example/pathwise/pathwise/sparql/RepetitionZeroLengthPinLaw.expected
  obtain ⟨_, _, ⟨T4, L4, k4, n4⟩, -, X4, ⟨Lc4, hQ4, l4, y4, z4⟩, st4⟩ := Jvm.LawKit.callS X3 hx (y := M_1) hown (mvT hZ (tw_8 hw)) (mvT hZ (tw_9 hw)) (mvT hZ (tw_3 hw)) (mvT hZ (tw_10 hw)) (by decide) (backOf (W := 0) (rm2_18 l Z a0 hw []  h0 n0 Z0 ) hZ (tw_10 hw) (tw_3 hw) (by decide) (by decide)) (g := (mkF m 33 #[.val (.int p0), .val (.int p1), .val (.int 2), .val (.int 1), .val (.ref a_ZERO_OR_ONE), .val (.ref a_ONE_OR_MORE), .val (.int 1), .unset] [(.int 1)])) rfl (by rw [hml]; rfl) (argsL := [(.int 1)]) (rest := []) (lenOf pd_1 rfl) rfl (by show 2 * 0 + _ ≤ _; exact Nat.le_of_eq rfl) (hb hby at_33) (fun _ _ => ⟨rfl, e3, (by decide : 0 + 0 ≤ _), (by decide : 0 + 0 ≤ _)⟩)
  dsimp only [Pt.U, Pt.locs, Pt.cells, Pt.slots] at X4 l4 y4 z4 st4 hQ4
  subst l4 y4 z4
  obtain ⟨rfl, Nq4, e4⟩ := hQ4
  have N4 := Fr.app N3 Nq4
  -- pc 40: com/example/pathwise/pathwise/sparql/PropertyPath$Repetition.zeroLength
  obtain ⟨cq5, kq5, q5a, q5b, q5c⟩ := isOf hZ e4 f6
  obtain ⟨_, _, ⟨T5, L5, k5, n5⟩, -, X5, ⟨Lc5, hQ5, l5, y5, z5⟩, st5⟩ := X4.virtualBack hx (y := M_2) (z := M_2) hown (mvT hZ (tw_11 hw)) (mvT hZ (tw_12 hw)) (notFace_of_selects (args := #[]) (mvT hZ (tw_14 hw))) (mvT hZ (tw_14 hw)) (mvT hZ (tw_13 hw)) (by decide) (backOf (W := 0) (rm3_24 l Z a0 hw [] a_ZERO_OR_ONE a_ONE_OR_MORE h0 n0 Z0 f4 f5) hZ (tw_15 hw) (tw_6 hw) (by decide) (by decide)) q5a q5c (g := (mkF m 40 #[.val (.int p0), .val (.int p1), .val (.int 2), .val (.int 1), .val (.ref a_ZERO_OR_ONE), .val (.ref a_ONE_OR_MORE), .val (.int 1), .val (.int 0)] [(.ref a_ZERO_OR_ONE)])) rfl (by rw [hml]; rfl) (Steps.refl _) (argsL := []) (rest := []) (lenOf pd_2 rfl) rfl (by show 2 * 0 + _ ≤ _; exact Nat.le_of_eq rfl) (hb hby at_40) (fun _ _ => ⟨rfl, e4, (by decide : 0 + 0 ≤ _), (by decide : 0 + 0 ≤ _)⟩)
  dsimp only [Pt.U, Pt.locs, Pt.cells, Pt.slots] at X5 l5 y5 z5 st5 hQ5
  subst l5 y5 z5
  obtain ⟨rfl, Nq5, e5⟩ := hQ5
  have N5 := Fr.app N4 Nq5
  -- pc 52: com/example/pathwise/pathwise/sparql/PropertyPath$Repetition.zeroLength
  obtain ⟨cq6, kq6, q6a, q6b, q6c⟩ := isOf hZ e5 f7
  obtain ⟨_, _, ⟨T6, L6, k6, n6⟩, -, X6, ⟨Lc6, hQ6, l6, y6, z6⟩, st6⟩ := X5.virtualBack hx (y := M_2) (z := M_2) hown (mvT hZ (tw_11 hw)) (mvT hZ (tw_12 hw)) (notFace_of_selects (args := #[]) (mvT hZ (tw_14 hw))) (mvT hZ (tw_14 hw)) (mvT hZ (tw_13 hw)) (by decide) (backOf (W := 0) (rm3_19 l Z a0 hw [] a_ONE_OR_MORE h0 n0 Z0 f4) hZ (tw_15 hw) (tw_6 hw) (by decide) (by decide)) q6a q6c (g := (mkF m 52 #[.val (.int p0), .val (.int p1), .val (.int 2), .val (.int 1), .val (.ref a_ZERO_OR_ONE), .val (.ref a_ONE_OR_MORE), .val (.int 1), .val (.int 0)] [(.ref a_ONE_OR_MORE)])) rfl (by rw [hml]; rfl) (Steps.refl _) (argsL := []) (rest := []) (lenOf pd_2 rfl) rfl (by show 2 * 0 + _ ≤ _; exact Nat.le_of_eq rfl) (hb hby at_52) (fun _ _ => ⟨rfl, e5, (by decide : 0 + 0 ≤ _), (by decide : 0 + 0 ≤ _)⟩)
  dsimp only [Pt.U, Pt.locs, Pt.cells, Pt.slots] at X6 l6 y6 z6 st6 hQ6
  subst l6 y6 z6
  obtain ⟨rfl, Nq6, e6⟩ := hQ6
  have N6 := Fr.app N5 Nq6
  -- pc 66: com/example/pathwise/pathwise/sparql/PropertyPath$Repetition.around
  obtain ⟨cq7, kq7, q7a, q7b, q7c⟩ := isOf hZ e6 f6
  obtain ⟨_, _, ⟨T7, L7, k7, n7⟩, -, X7, ⟨Lc7, hQ7, l7, y7, z7⟩, st7⟩ := X6.virtualBack hx (y := M_4) (z := M_4) hown (mvT hZ (tw_18 hw)) (mvT hZ (tw_19 hw)) (notFace_of_selects (args := #[]) (mvT hZ (tw_21 hw))) (mvT hZ (tw_21 hw)) (mvT hZ (tw_20 hw)) (by decide) (backOf (W := 0) (rm4_37 l Z a0 hw [] a_ZERO_OR_ONE a_ONE_OR_MORE a_ZERO_OR_MORE h0 n0 Z0 f4 f5 f6 f3 f7 f8) hZ (tw_22 hw) (tw_6 hw) (by decide) (by decide)) q7a q7c (g := (mkF m 66 #[.val (.int p0), .val (.int p1), .val (.int 2), .val (.int 1), .val (.ref a_ZERO_OR_ONE), .val (.ref a_ONE_OR_MORE), .val (.int 1), .val (.int 0)] [(.ref a_ONE_OR_MORE), (.ref a_ZERO_OR_ONE)])) rfl (by rw [hml]; rfl) (Steps.refl _) (argsL := [(.ref a_ONE_OR_MORE)]) (rest := []) (lenOf pd_3 rfl) rfl (by show 2 * 0 + _ ≤ _; exact Nat.le_of_eq rfl) (hb hby at_66) (fun _ _ => ⟨rfl, e6, (by decide : 0 + 0 ≤ _), (by decide : 0 + 0 ≤ _)⟩)
  dsimp only [Pt.U, Pt.locs, Pt.cells, Pt.slots] at X7 l7 y7 z7 st7 hQ7
  subst l7 y7 z7
  obtain ⟨rfl, Nq7, e7⟩ := hQ7
  have N7 := Fr.app N6 Nq7
  -- pc 69: com/example/pathwise/pathwise/sparql/PropertyPath$Repetition.zeroLength
  obtain ⟨cq8, kq8, q8a, q8b, q8c⟩ := isOf hZ e7 f10
  obtain ⟨_, _, ⟨T8, L8, k8, n8⟩, -, X8, ⟨Lc8, hQ8, l8, y8, z8⟩, st8⟩ := X7.virtualBack hx (y := M_2) (z := M_2) hown (mvT hZ (tw_11 hw)) (mvT hZ (tw_12 hw)) (notFace_of_selects (args := #[]) (mvT hZ (tw_14 hw))) (mvT hZ (tw_14 hw)) (mvT hZ (tw_13 hw)) (by decide) (backOf (W := 0) (rm3_13 l Z a0 hw [] a_ZERO_OR_MORE a_ONE_OR_MORE h0 n0 Z0 f4 f9) hZ (tw_15 hw) (tw_6 hw) (by decide) (by decide)) q8a q8c (g := (mkF m 69 #[.val (.int p0), .val (.int p1), .val (.int 2), .val (.int 1), .val (.ref a_ZERO_OR_ONE), .val (.ref a_ONE_OR_MORE), .val (.int 1), .val (.int 0)] [(.ref a_ZERO_OR_MORE)])) rfl (by rw [hml]; rfl) (Steps.refl _) (argsL := []) (rest := []) (lenOf pd_2 rfl) rfl (by show 2 * 0 + _ ≤ _; exact Nat.le_of_eq rfl) (hb hby at_69) (fun _ _ => ⟨rfl, e7, (by decide : 0 + 0 ≤ _), (by decide : 0 + 0 ≤ _)⟩)
  dsimp only [Pt.U, Pt.locs, Pt.cells, Pt.slots] at X8 l8 y8 z8 st8 hQ8
  subst l8 y8 z8
  obtain ⟨rfl, Nq8, e8⟩ := hQ8
  have N8 := Fr.app N7 Nq8
  obtain ⟨fs, hr, hrun, hended, hW, hsame⟩ := X8.leave (v := (some (.int 1))) (fun h => by rw [Bd.returns] at h; cases h)
  refine ⟨_, _, castTop (ef0_II m p0 p1) ?_, hrun, hended, _, _, rfl, ?_, ⟨_, rfl⟩, hW, hsame.mono (by decide) (by decide)⟩
  · show Steps p.tables e below (s₁.setTop (mkF m 0 #[.val (.int p0), .val (.int p1), .unset, .unset, .unset, .unset, .unset, .unset] [])) _
    refine XS.iloadN X0.here hx rfl (hb hby at_0) rfl ?_
    show Steps p.tables e below (s₁.setTop (mkF m 1 #[.val (.int p0), .val (.int p1), .unset, .unset, .unset, .unset, .unset, .unset] [(.int p0)])) _
    refine X0.ldcInt hx hown (mvT hZ (tw_0 hw)) (g := (mkF m 1 #[.val (.int p0), .val (.int p1), .unset, .unset, .unset, .unset, .unset, .unset] [(.int p0)])) rfl (hb hby at_1) _ ?_
    show Steps p.tables e below (s₁.setTop (mkF m 3 #[.val (.int p0), .val (.int p1), .unset, .unset, .unset, .unset, .unset, .unset] [(.int 2147483647), (.int p0)])) _
    refine XS.iand X0.here hx rfl (hb hby at_3) rfl ?_
    refine XS.iconst X0.here hx rfl (hb hby at_4) ?_
    show Steps p.tables e below (s₁.setTop (mkF m 5 #[.val (.int p0), .val (.int p1), .unset, .unset, .unset, .unset, .unset, .unset] [(.int 3), (.int (p0 &&& (2147483647 : Int32)))])) _
    refine iremM X0 hx rfl (hb hby at_5) rfl (by decide) ?_
    show Steps p.tables e below (s₁.setTop (mkF m 6 #[.val (.int p0), .val (.int p1), .unset, .unset, .unset, .unset, .unset, .unset] [(.int ((p0 &&& (2147483647 : Int32)) % (3 : Int32)))])) _
    rw [f1]
    refine XS.istoreN X0.here hx rfl (hb hby at_6) rfl (l' := #[.val (.int p0), .val (.int p1), .val (.int 2), .unset, .unset, .unset, .unset, .unset]) rfl ?_
    refine XS.iloadN X0.here hx rfl (hb hby at_7) rfl ?_
    show Steps p.tables e below (s₁.setTop (mkF m 8 #[.val (.int p0), .val (.int p1), .val (.int 2), .unset, .unset, .unset, .unset, .unset] [(.int p1)])) _
    refine X0.ldcInt hx hown (mvT hZ (tw_0 hw)) (g := (mkF m 8 #[.val (.int p0), .val (.int p1), .val (.int 2), .unset, .unset, .unset, .unset, .unset] [(.int p1)])) rfl (hb hby at_8) _ ?_
    show Steps p.tables e below (s₁.setTop (mkF m 10 #[.val (.int p0), .val (.int p1), .val (.int 2), .unset, .unset, .unset, .unset, .unset] [(.int 2147483647), (.int p1)])) _
    refine XS.iand X0.here hx rfl (hb hby at_10) rfl ?_
    refine XS.iconst X0.here hx rfl (hb hby at_11) ?_
    show Steps p.tables e below (s₁.setTop (mkF m 12 #[.val (.int p0), .val (.int p1), .val (.int 2), .unset, .unset, .unset, .unset, .unset] [(.int 3), (.int (p1 &&& (2147483647 : Int32)))])) _
    refine iremM X0 hx rfl (hb hby at_12) rfl (by decide) ?_
    show Steps p.tables e below (s₁.setTop (mkF m 13 #[.val (.int p0), .val (.int p1), .val (.int 2), .unset, .unset, .unset, .unset, .unset] [(.int ((p1 &&& (2147483647 : Int32)) % (3 : Int32)))])) _
    rw [f2]
    refine XS.istoreN X0.here hx rfl (hb hby at_13) rfl (l' := #[.val (.int p0), .val (.int p1), .val (.int 2), .val (.int 1), .unset, .unset, .unset, .unset]) rfl ?_
    refine XS.iloadN X0.here hx rfl (hb hby at_14) rfl ?_
    show Steps p.tables e below (s₁.setTop (mkF m 15 #[.val (.int p0), .val (.int p1), .val (.int 2), .val (.int 1), .unset, .unset, .unset, .unset] [(.int 2)])) _
    refine st1 _ ?_
    refine XS.astore X1.here hx rfl (hb hby at_18) rfl rfl (l' := #[.val (.int p0), .val (.int p1), .val (.int 2), .val (.int 1), .val (.ref a_ZERO_OR_ONE), .unset, .unset, .unset]) rfl ?_
    refine XS.iloadN X1.here hx rfl (hb hby at_20) rfl ?_
    show Steps p.tables e below (T1.setTop (mkF m 21 #[.val (.int p0), .val (.int p1), .val (.int 2), .val (.int 1), .val (.ref a_ZERO_OR_ONE), .unset, .unset, .unset] [(.int 1)])) _
    refine st2 _ ?_
    refine XS.astore X2.here hx rfl (hb hby at_24) rfl rfl (l' := #[.val (.int p0), .val (.int p1), .val (.int 2), .val (.int 1), .val (.ref a_ZERO_OR_ONE), .val (.ref a_ONE_OR_MORE), .unset, .unset]) rfl ?_
    refine XS.iloadN X2.here hx rfl (hb hby at_26) rfl ?_
    show Steps p.tables e below (T2.setTop (mkF m 27 #[.val (.int p0), .val (.int p1), .val (.int 2), .val (.int 1), .val (.ref a_ZERO_OR_ONE), .val (.ref a_ONE_OR_MORE), .unset, .unset] [(.int 2)])) _
    refine st3 _ ?_
    refine XS.istore X3.here hx rfl (hb hby at_30) rfl (l' := #[.val (.int p0), .val (.int p1), .val (.int 2), .val (.int 1), .val (.ref a_ZERO_OR_ONE), .val (.ref a_ONE_OR_MORE), .val (.int 1), .unset]) rfl ?_
    refine XS.iloadN X3.here hx rfl (hb hby at_32) rfl ?_
    show Steps p.tables e below (T3.setTop (mkF m 33 #[.val (.int p0), .val (.int p1), .val (.int 2), .val (.int 1), .val (.ref a_ZERO_OR_ONE), .val (.ref a_ONE_OR_MORE), .val (.int 1), .unset] [(.int 1)])) _
    refine st4 _ ?_
    refine XS.istore X4.here hx rfl (hb hby at_36) rfl (l' := #[.val (.int p0), .val (.int p1), .val (.int 2), .val (.int 1), .val (.ref a_ZERO_OR_ONE), .val (.ref a_ONE_OR_MORE), .val (.int 1), .val (.int 0)]) rfl ?_
    refine XS.aload X4.here hx rfl (hb hby at_38) rfl rfl ?_
    show Steps p.tables e below (T4.setTop (mkF m 40 #[.val (.int p0), .val (.int p1), .val (.int 2), .val (.int 1), .val (.ref a_ZERO_OR_ONE), .val (.ref a_ONE_OR_MORE), .val (.int 1), .val (.int 0)] [(.ref a_ZERO_OR_ONE)])) _
    refine st5.trans ?_
    refine XS.iload X5.here hx rfl (hb hby at_43) rfl ?_
    refine XS.icmpYes X5.here hx rfl (pc0 := 45) (pc' := 50) rfl (hb hby at_45) rfl (by decide) (by decide) (by decide) ?_
    refine XS.aload X5.here hx rfl (hb hby at_50) rfl rfl ?_
    show Steps p.tables e below (T5.setTop (mkF m 52 #[.val (.int p0), .val (.int p1), .val (.int 2), .val (.int 1), .val (.ref a_ZERO_OR_ONE), .val (.ref a_ONE_OR_MORE), .val (.int 1), .val (.int 0)] [(.ref a_ONE_OR_MORE)])) _
    refine st6.trans ?_
    refine XS.iload X6.here hx rfl (hb hby at_55) rfl ?_
    refine XS.icmpYes X6.here hx rfl (pc0 := 57) (pc' := 62) rfl (hb hby at_57) rfl (by decide) (by decide) (by decide) ?_
    refine XS.aload X6.here hx rfl (hb hby at_62) rfl rfl ?_
    refine XS.aload X6.here hx rfl (hb hby at_64) rfl rfl ?_
    show Steps p.tables e below (T6.setTop (mkF m 66 #[.val (.int p0), .val (.int p1), .val (.int 2), .val (.int 1), .val (.ref a_ZERO_OR_ONE), .val (.ref a_ONE_OR_MORE), .val (.int 1), .val (.int 0)] [(.ref a_ONE_OR_MORE), (.ref a_ZERO_OR_ONE)])) _
    refine st7.trans ?_
    show Steps p.tables e below (T7.setTop (mkF m 69 #[.val (.int p0), .val (.int p1), .val (.int 2), .val (.int 1), .val (.ref a_ZERO_OR_ONE), .val (.ref a_ONE_OR_MORE), .val (.int 1), .val (.int 0)] [(.ref a_ZERO_OR_MORE)])) _
    refine st8.trans ?_
    refine XS.iload X8.here hx rfl (hb hby at_72) rfl ?_
    refine XS.ifYes X8.here hx rfl (pc0 := 74) (pc' := 82) rfl (hb hby at_74) rfl (by decide) (by decide) (by decide) ?_
    refine XS.iconst X8.here hx rfl (hb hby at_82) ?_
    refine XS.goto X8.here hx rfl (pc0 := 83) (pc' := 87) rfl (hb hby at_83) (by decide) (by decide) ?_
    show Steps p.tables e below (T8.setTop (mkF m 87 #[.val (.int p0), .val (.int p1), .val (.int 2), .val (.int 1), .val (.ref a_ZERO_OR_ONE), .val (.ref a_ONE_OR_MORE), .val (.int 1), .val (.int 0)] [(.int 1), (.int 1)])) _
    refine XS.icmpNo X8.here hx rfl (hb hby at_87) rfl (by decide) ?_
    refine XS.iconst X8.here hx rfl (hb hby at_90) ?_
    refine XS.goto X8.here hx rfl (pc0 := 91) (pc' := 95) rfl (hb hby at_91) (by decide) (by decide) ?_
    show Steps p.tables e below (T8.setTop (mkF m 95 #[.val (.int p0), .val (.int p1), .val (.int 2), .val (.int 1), .val (.ref a_ZERO_OR_ONE), .val (.ref a_ONE_OR_MORE), .val (.int 1), .val (.int 0)] [(.int 1)])) _
    exact retN X8 hx (t := .boolean) Bd.returns (by simp) (hb hby at_95) hr
  · show QT n0 _ T8.heap _
    rw [e8]
    exact ⟨rfl, N8⟩
theorem d4_48 : decode prog_118_method_6_code 48 = .ok (.getstatic 10, 3) := by decide +kernel
theorem d4_51 : decode prog_118_method_6_code 51 = .ok (.areturn, 1) := by decide +kernel
set_option maxRecDepth 65536 in
set_option maxHeartbeats 40000000 in
theorem rm4_39 (l : Launch) (Z : State) (a0 : Array Value) (hw : ∀ d ∈ tables_1, d.before a0 Z = true) (ws : List Jvm.Cond) (a_ZERO_OR_ONE : Addr) (a_ONE_OR_MORE : Addr) (h0 : Heap) (n0 : Nat) (Z0 : n0 ≤ h0.size) (f1 : S_1 Z h0 (.ref a_ONE_OR_MORE)) (f2 : a_ONE_OR_MORE ≠ a_ZERO_OR_ONE) (f3 : E_0 Z h0 a_ZERO_OR_ONE) (f4 : S_2 Z h0 (.ref a_ZERO_OR_ONE)) :
    MetFree l M_4 (head1 (Jvm.Cond.code M_4 prog_118_method_6_code 3 (some (.object "com/example/pathwise/pathwise/sparql/PropertyPath$Repetition")) :: ws) R_1_0_0_12) (fun a U => a = #[(.ref a_ZERO_OR_ONE), (.ref a_ZERO_OR_ONE)] ∧ Z.Warmed39 U.vm ∧ U.heap = h0) (fun _ _ _ _ _ => True) (fun _ U o U' => ∃ v L, o = .returned v ∧ QP (some (.ref a_ZERO_OR_ONE)) h0 n0 v U'.heap L ∧ FrameEnd U o U' L R_1_0_0_12.cells R_1_0_0_12.slots) := by
  refine MetFree.of_bodySF (plainFor_of_name pn_com_example_pathwise_pathwise_sparql_PropertyPath_Repetition) hisR ?_
  intro p e s m args below meth c s₁ Bd hml0 hP hK
  obtain ⟨rfl, hZ, hh⟩ := hP
  have hx := Bd.exec
  have hby := Bd.bytes
  have hml : c.maxLocals = 3 := hml0
  have hown : s.vm.findClass "com/example/pathwise/pathwise/sparql/PropertyPath$Repetition" = some m.cls := findClass_of_methodNamed Bd.named
  have hnm := (name_of_methodNamed Bd.named Bd.method).1
  have X0 : Stand p l e R_1_0_0_12 s m #[(.ref a_ZERO_OR_ONE), (.ref a_ZERO_OR_ONE)] below meth c s₁ [] 0 0 := Stand.of_body Bd
  have e0 : s₁.heap = h0 := by rw [← hh, Bd.state]; rfl
  have N0 := Fr.nil n0
  -- pc 1: com/example/pathwise/pathwise/sparql/PropertyPath$Repetition.zeroLength
  obtain ⟨cq1, kq1, q1a, q1b, q1c⟩ := isOf hZ e0 f3
  obtain ⟨_, _, ⟨T1, L1, k1, n1⟩, -, X1, ⟨Lc1, hQ1, l1, y1, z1⟩, st1⟩ := X0.virtualBack hx (y := M_2) (z := M_2) hown (mvT hZ (tw_23 hw)) (mvT hZ (tw_12 hw)) (notFace_of_selects (args := #[]) (mvT hZ (tw_14 hw))) (mvT hZ (tw_14 hw)) (mvT hZ (tw_13 hw)) (by decide) (backOf (W := 0) (rm3_24 l Z a0 hw [] a_ZERO_OR_ONE a_ONE_OR_MORE h0 n0 Z0 f1 f2) hZ (tw_15 hw) (tw_6 hw) (by decide) (by decide)) q1a q1c (g := (mkF m 1 #[.val (.ref a_ZERO_OR_ONE), .val (.ref a_ZERO_OR_ONE), .unset] [(.ref a_ZERO_OR_ONE)])) rfl (by rw [hml]; rfl) (Steps.refl _) (argsL := []) (rest := []) (lenOf pd_2 rfl) rfl (by show 2 * 0 + _ ≤ _; exact Nat.le_of_eq rfl) (hb hby d4_1) (fun _ _ => ⟨rfl, e0, (by decide : 0 + 0 ≤ _), (by decide : 0 + 0 ≤ _)⟩)
  dsimp only [Pt.U, Pt.locs, Pt.cells, Pt.slots] at X1 l1 y1 z1 st1 hQ1
  subst l1 y1 z1
  obtain ⟨rfl, Nq1, e1⟩ := hQ1
  have N1 := Fr.app N0 Nq1
  -- pc 21: com/example/pathwise/pathwise/sparql/PropertyPath$Repetition.unbounded
  obtain ⟨cq2, kq2, q2a, q2b, q2c⟩ := isOf hZ e1 f3
  obtain ⟨_, _, ⟨T2, L2, k2, n2⟩, -, X2, ⟨Lc2, hQ2, l2, y2, z2⟩, st2⟩ := X1.virtualBack hx (y := M_3) (z := M_3) hown (mvT hZ (tw_24 hw)) (mvT hZ (tw_25 hw)) (notFace_of_selects (args := #[]) (mvT hZ (tw_27 hw))) (mvT hZ (tw_27 hw)) (mvT hZ (tw_26 hw)) (by decide) (backOf (W := 0) (rm5_34 l Z a0 hw [] a_ZERO_OR_ONE h0 n0 Z0 f4) hZ (tw_28 hw) (tw_6 hw) (by decide) (by decide)) q2a q2c (g := (mkF m 21 #[.val (.ref a_ZERO_OR_ONE), .val (.ref a_ZERO_OR_ONE), .val (.int 1)] [(.ref a_ZERO_OR_ONE)])) rfl (by rw [hml]; rfl) (Steps.refl _) (argsL := []) (rest := []) (lenOf pd_2 rfl) rfl (by show 2 * 0 + _ ≤ _; exact Nat.le_of_eq rfl) (hb hby d4_21) (fun _ _ => ⟨rfl, e1, (by decide : 0 + 0 ≤ _), (by decide : 0 + 0 ≤ _)⟩)
  dsimp only [Pt.U, Pt.locs, Pt.cells, Pt.slots] at X2 l2 y2 z2 st2 hQ2
  subst l2 y2 z2
  obtain ⟨rfl, Nq2, e2⟩ := hQ2
  have N2 := Fr.app N1 Nq2
  -- pc 28: com/example/pathwise/pathwise/sparql/PropertyPath$Repetition.unbounded
  obtain ⟨cq3, kq3, q3a, q3b, q3c⟩ := isOf hZ e2 f3
  obtain ⟨_, _, ⟨T3, L3, k3, n3⟩, -, X3, ⟨Lc3, hQ3, l3, y3, z3⟩, st3⟩ := X2.virtualBack hx (y := M_3) (z := M_3) hown (mvT hZ (tw_24 hw)) (mvT hZ (tw_25 hw)) (notFace_of_selects (args := #[]) (mvT hZ (tw_27 hw))) (mvT hZ (tw_27 hw)) (mvT hZ (tw_26 hw)) (by decide) (backOf (W := 0) (rm5_34 l Z a0 hw [] a_ZERO_OR_ONE h0 n0 Z0 f4) hZ (tw_28 hw) (tw_6 hw) (by decide) (by decide)) q3a q3c (g := (mkF m 28 #[.val (.ref a_ZERO_OR_ONE), .val (.ref a_ZERO_OR_ONE), .val (.int 1)] [(.ref a_ZERO_OR_ONE)])) rfl (by rw [hml]; rfl) (Steps.refl _) (argsL := []) (rest := []) (lenOf pd_2 rfl) rfl (by show 2 * 0 + _ ≤ _; exact Nat.le_of_eq rfl) (hb hby d4_28) (fun _ _ => ⟨rfl, e2, (by decide : 0 + 0 ≤ _), (by decide : 0 + 0 ≤ _)⟩)
  dsimp only [Pt.U, Pt.locs, Pt.cells, Pt.slots] at X3 l3 y3 z3 st3 hQ3
  subst l3 y3 z3
  obtain ⟨rfl, Nq3, e3⟩ := hQ3
  have N3 := Fr.app N2 Nq3
  obtain ⟨T4, X4, e4, st4⟩ := getS2 X3 hx hZ hown (host := "") (Or.inl (tw_29 hw)) Via.refl e3 f4 (g := (mkF m 48 #[.val (.ref a_ZERO_OR_ONE), .val (.ref a_ZERO_OR_ONE), .val (.int 1)] [])) rfl (hb hby d4_48)
  obtain ⟨fs, hr, hrun, hended, hW, hsame⟩ := X4.leave (v := (some (.ref a_ZERO_OR_ONE))) (fun h => by rw [Bd.returns] at h; cases h)
  refine ⟨_, _, castTop (ef4_RR m a_ZERO_OR_ONE a_ZERO_OR_ONE) ?_, hrun, hended, _, _, rfl, ?_, ⟨_, rfl⟩, hW, hsame.mono (by decide) (by decide)⟩
  · show Steps p.tables e below (s₁.setTop (mkF m 0 #[.val (.ref a_ZERO_OR_ONE), .val (.ref a_ZERO_OR_ONE), .unset] [])) _
    refine XS.aloadN X0.here hx rfl (hb hby d4_0) rfl rfl ?_
    show Steps p.tables e below (s₁.setTop (mkF m 1 #[.val (.ref a_ZERO_OR_ONE), .val (.ref a_ZERO_OR_ONE), .unset] [(.ref a_ZERO_OR_ONE)])) _
    refine st1.trans ?_
    refine XS.ifYes X1.here hx rfl (pc0 := 4) (pc' := 14) rfl (hb hby d4_4) rfl (by decide) (by decide) (by decide) ?_
    refine XS.iconst X1.here hx rfl (hb hby d4_14) ?_
    refine XS.goto X1.here hx rfl (pc0 := 15) (pc' := 19) rfl (hb hby d4_15) (by decide) (by decide) ?_
    refine XS.istoreN X1.here hx rfl (hb hby d4_19) rfl (l' := #[.val (.ref a_ZERO_OR_ONE), .val (.ref a_ZERO_OR_ONE), .val (.int 1)]) rfl ?_
    show Steps p.tables e below (T1.setTop (mkF m 20 #[.val (.ref a_ZERO_OR_ONE), .val (.ref a_ZERO_OR_ONE), .val (.int 1)] [])) _
    refine XS.aloadN X1.here hx rfl (hb hby d4_20) rfl rfl ?_
    show Steps p.tables e below (T1.setTop (mkF m 21 #[.val (.ref a_ZERO_OR_ONE), .val (.ref a_ZERO_OR_ONE), .val (.int 1)] [(.ref a_ZERO_OR_ONE)])) _
    refine st2.trans ?_
    refine XS.ifNo X2.here hx rfl (hb hby d4_24) rfl (by decide) ?_
    refine XS.aloadN X2.here hx rfl (hb hby d4_27) rfl rfl ?_
    show Steps p.tables e below (T2.setTop (mkF m 28 #[.val (.ref a_ZERO_OR_ONE), .val (.ref a_ZERO_OR_ONE), .val (.int 1)] [(.ref a_ZERO_OR_ONE)])) _
    refine st3.trans ?_
    refine XS.ifYes X3.here hx rfl (pc0 := 31) (pc' := 48) rfl (hb hby d4_31) rfl (by decide) (by decide) (by decide) ?_
    show Steps p.tables e below (T3.setTop (mkF m 48 #[.val (.ref a_ZERO_OR_ONE), .val (.ref a_ZERO_OR_ONE), .val (.int 1)] [])) _
    refine st4 _ ?_
    show Steps p.tables e below (T4.setTop (mkF m 51 #[.val (.ref a_ZERO_OR_ONE), .val (.ref a_ZERO_OR_ONE), .val (.int 1)] [(.ref a_ZERO_OR_ONE)])) _
    jvm_step X4.here [X4.here.top, hx, (hb hby d4_51), X4.method', Bd.returns, Value.isRef, FieldType.isReference]
    first | (intro acts; rw [hr _ acts rfl rfl rfl]) | rw [hr _ _ rfl rfl rfl]
    exact Steps.refl _
  · show QP (some (.ref a_ZERO_OR_ONE)) h0 n0 _ T4.heap _
    rw [e4]
    exact ⟨rfl, N3, rfl⟩
set_option maxRecDepth 65536 in
set_option maxHeartbeats 40000000 in
theorem rm0_40 (l : Launch) (Z : State) (a0 : Array Value) (hw : ∀ d ∈ tables_1, d.before a0 Z = true) (ws : List Jvm.Cond) (p0 : Int32) (p1 : Int32) (a_ZERO_OR_ONE : Addr) (a_ONE_OR_MORE : Addr) (h0 : Heap) (n0 : Nat) (Z0 : n0 ≤ h0.size) (f1 : ((p0 &&& (2147483647 : Int32)) % (3 : Int32)) = (2 : Int32)) (f2 : ((p1 &&& (2147483647 : Int32)) % (3 : Int32)) = (2 : Int32)) (f3 : S_2 Z h0 (.ref a_ZERO_OR_ONE)) (f4 : S_1 Z h0 (.ref a_ONE_OR_MORE)) (f5 : a_ONE_OR_MORE ≠ a_ZERO_OR_ONE) (f6 : E_0 Z h0 a_ZERO_OR_ONE) :
    MetFree l x (head1 (Jvm.Cond.code x code maxLocals ret :: ws) room_1) (fun a U => a = #[(.int p0), (.int p1)] ∧ Z.Warmed39 U.vm ∧ U.heap = h0) (fun _ _ _ _ _ => True) (fun _ U o U' => ∃ v L, o = .returned v ∧ QT n0 v U'.heap L ∧ FrameEnd U o U' L room_1.cells room_1.slots) := by
  refine MetFree.of_bodySF (plainFor_of_name pn_com_example_pathwise_pathwise_sparql_RepetitionZeroLengthPinLaw) hisR ?_
  intro p e s m args below meth c s₁ Bd hml0 hP hK
  obtain ⟨rfl, hZ, hh⟩ := hP
  have hx := Bd.exec
  have hby := Bd.bytes
  have hml : c.maxLocals = 8 := hml0
  have hown : s.vm.findClass "com/example/pathwise/pathwise/sparql/RepetitionZeroLengthPinLaw" = some m.cls := findClass_of_methodNamed Bd.named
  have hnm := (name_of_methodNamed Bd.named Bd.method).1
  have X0 : Stand p l e room_1 s m #[(.int p0), (.int p1)] below meth c s₁ [] 0 0 := Stand.of_body Bd
  have e0 : s₁.heap = h0 := by rw [← hh, Bd.state]; rfl
  have N0 := Fr.nil n0
  -- pc 15: com/example/pathwise/pathwise/sparql/RepetitionZeroLengthPinLaw.pick
  obtain ⟨_, _, ⟨T1, L1, k1, n1⟩, -, X1, ⟨Lc1, hQ1, l1, y1, z1⟩, st1⟩ := Jvm.LawKit.callS X0 hx (y := M_0) hown (mvT hZ (tw_1 hw)) (mvT hZ (tw_2 hw)) (mvT hZ (tw_3 hw)) (mvT hZ (tw_4 hw)) (by decide) (backOf (W := 0) (rm1_22 l Z a0 hw [] a_ZERO_OR_ONE h0 n0 Z0 f3) hZ (tw_4 hw) (tw_3 hw) (by decide) (by decide)) (g := (mkF m 15 #[.val (.int p0), .val (.int p1), .val (.int 2), .val (.int 2), .unset, .unset, .unset, .unset] [(.int 2)])) rfl (by rw [hml]; rfl) (argsL := [(.int 2)]) (rest := []) (lenOf pd_0 rfl) rfl (by show 2 * 0 + _ ≤ _; exact Nat.le_of_eq rfl) (hb hby at_15) (fun _ _ => ⟨rfl, e0, (by decide : 0 + 0 ≤ _), (by decide : 0 + 0 ≤ _)⟩)
  dsimp only [Pt.U, Pt.locs, Pt.cells, Pt.slots] at X1 l1 y1 z1 st1 hQ1
  subst l1 y1 z1
  obtain ⟨rfl, Nq1, e1⟩ := hQ1
  have N1 := Fr.app N0 Nq1
  -- pc 21: com/example/pathwise/pathwise/sparql/RepetitionZeroLengthPinLaw.pick
  obtain ⟨_, _, ⟨T2, L2, k2, n2⟩, -, X2, ⟨Lc2, hQ2, l2, y2, z2⟩, st2⟩ := Jvm.LawKit.callS X1 hx (y := M_0) hown (mvT hZ (tw_1 hw)) (mvT hZ (tw_2 hw)) (mvT hZ (tw_3 hw)) (mvT hZ (tw_4 hw)) (by decide) (backOf (W := 0) (rm1_22 l Z a0 hw [] a_ZERO_OR_ONE h0 n0 Z0 f3) hZ (tw_4 hw) (tw_3 hw) (by decide) (by decide)) (g := (mkF m 21 #[.val (.int p0), .val (.int p1), .val (.int 2), .val (.int 2), .val (.ref a_ZERO_OR_ONE), .unset, .unset, .unset] [(.int 2)])) rfl (by rw [hml]; rfl) (argsL := [(.int 2)]) (rest := []) (lenOf pd_0 rfl) rfl (by show 2 * 0 + _ ≤ _; exact Nat.le_of_eq rfl) (hb hby at_21) (fun _ _ => ⟨rfl, e1, (by decide : 0 + 0 ≤ _), (by decide : 0 + 0 ≤ _)⟩)
  dsimp only [Pt.U, Pt.locs, Pt.cells, Pt.slots] at X2 l2 y2 z2 st2 hQ2
  subst l2 y2 z2
  obtain ⟨rfl, Nq2, e2⟩ := hQ2
  have N2 := Fr.app N1 Nq2
  -- pc 27: com/example/pathwise/pathwise/sparql/RepetitionZeroLengthPinLaw.expected
  obtain ⟨_, _, ⟨T3, L3, k3, n3⟩, -, X3, ⟨Lc3, hQ3, l3, y3, z3⟩, st3⟩ := Jvm.LawKit.callS X2 hx (y := M_1) hown (mvT hZ (tw_8 hw)) (mvT hZ (tw_9 hw)) (mvT hZ (tw_3 hw)) (mvT hZ (tw_10 hw)) (by decide) (backOf (W := 0) (rm2_23 l Z a0 hw []  h0 n0 Z0 ) hZ (tw_10 hw) (tw_3 hw) (by decide) (by decide)) (g := (mkF m 27 #[.val (.int p0), .val (.int p1), .val (.int 2), .val (.int 2), .val (.ref a_ZERO_OR_ONE), .val (.ref a_ZERO_OR_ONE), .unset, .unset] [(.int 2)])) rfl (by rw [hml]; rfl) (argsL := [(.int 2)]) (rest := []) (lenOf pd_1 rfl) rfl (by show 2 * 0 + _ ≤ _; exact Nat.le_of_eq rfl) (hb hby at_27) (fun _ _ => ⟨rfl, e2, (by decide : 0 + 0 ≤ _), (by decide : 0 + 0 ≤ _)⟩)
  dsimp only [Pt.U, Pt.locs, Pt.cells, Pt.slots] at X3 l3 y3 z3 st3 hQ3
  subst l3 y3 z3
  obtain ⟨rfl, Nq3, e3⟩ := hQ3
  have N3 := Fr.app N2 Nq3
  -- pc 33: com/example/pathwise/pathwise/sparql/RepetitionZeroLengthPinLaw.expected
  obtain ⟨_, _, ⟨T4, L4, k4, n4⟩, -, X4, ⟨Lc4, hQ4, l4, y4, z4⟩, st4⟩ := Jvm.LawKit.callS X3 hx (y := M_1) hown (mvT hZ (tw_8 hw)) (mvT hZ (tw_9 hw)) (mvT hZ (tw_3 hw)) (mvT hZ (tw_10 hw)) (by decide) (backOf (W := 0) (rm2_23 l Z a0 hw []  h0 n0 Z0 ) hZ (tw_10 hw) (tw_3 hw) (by decide) (by decide)) (g := (mkF m 33 #[.val (.int p0), .val (.int p1), .val (.int 2), .val (.int 2), .val (.ref a_ZERO_OR_ONE), .val (.ref a_ZERO_OR_ONE), .val (.int 1), .unset] [(.int 2)])) rfl (by rw [hml]; rfl) (argsL := [(.int 2)]) (rest := []) (lenOf pd_1 rfl) rfl (by show 2 * 0 + _ ≤ _; exact Nat.le_of_eq rfl) (hb hby at_33) (fun _ _ => ⟨rfl, e3, (by decide : 0 + 0 ≤ _), (by decide : 0 + 0 ≤ _)⟩)
  dsimp only [Pt.U, Pt.locs, Pt.cells, Pt.slots] at X4 l4 y4 z4 st4 hQ4
  subst l4 y4 z4
  obtain ⟨rfl, Nq4, e4⟩ := hQ4
  have N4 := Fr.app N3 Nq4
  -- pc 40: com/example/pathwise/pathwise/sparql/PropertyPath$Repetition.zeroLength
  obtain ⟨cq5, kq5, q5a, q5b, q5c⟩ := isOf hZ e4 f6
  obtain ⟨_, _, ⟨T5, L5, k5, n5⟩, -, X5, ⟨Lc5, hQ5, l5, y5, z5⟩, st5⟩ := X4.virtualBack hx (y := M_2) (z := M_2) hown (mvT hZ (tw_11 hw)) (mvT hZ (tw_12 hw)) (notFace_of_selects (args := #[]) (mvT hZ (tw_14 hw))) (mvT hZ (tw_14 hw)) (mvT hZ (tw_13 hw)) (by decide) (backOf (W := 0) (rm3_24 l Z a0 hw [] a_ZERO_OR_ONE a_ONE_OR_MORE h0 n0 Z0 f4 f5) hZ (tw_15 hw) (tw_6 hw) (by decide) (by decide)) q5a q5c (g := (mkF m 40 #[.val (.int p0), .val (.int p1), .val (.int 2), .val (.int 2), .val (.ref a_ZERO_OR_ONE), .val (.ref a_ZERO_OR_ONE), .val (.int 1), .val (.int 1)] [(.ref a_ZERO_OR_ONE)])) rfl (by rw [hml]; rfl) (Steps.refl _) (argsL := []) (rest := []) (lenOf pd_2 rfl) rfl (by show 2 * 0 + _ ≤ _; exact Nat.le_of_eq rfl) (hb hby at_40) (fun _ _ => ⟨rfl, e4, (by decide : 0 + 0 ≤ _), (by decide : 0 + 0 ≤ _)⟩)
  dsimp only [Pt.U, Pt.locs, Pt.cells, Pt.slots] at X5 l5 y5 z5 st5 hQ5
  subst l5 y5 z5
  obtain ⟨rfl, Nq5, e5⟩ := hQ5
  have N5 := Fr.app N4 Nq5
  -- pc 52: com/example/pathwise/pathwise/sparql/PropertyPath$Repetition.zeroLength
  obtain ⟨cq6, kq6, q6a, q6b, q6c⟩ := isOf hZ e5 f6
  obtain ⟨_, _, ⟨T6, L6, k6, n6⟩, -, X6, ⟨Lc6, hQ6, l6, y6, z6⟩, st6⟩ := X5.virtualBack hx (y := M_2) (z := M_2) hown (mvT hZ (tw_11 hw)) (mvT hZ (tw_12 hw)) (notFace_of_selects (args := #[]) (mvT hZ (tw_14 hw))) (mvT hZ (tw_14 hw)) (mvT hZ (tw_13 hw)) (by decide) (backOf (W := 0) (rm3_24 l Z a0 hw [] a_ZERO_OR_ONE a_ONE_OR_MORE h0 n0 Z0 f4 f5) hZ (tw_15 hw) (tw_6 hw) (by decide) (by decide)) q6a q6c (g := (mkF m 52 #[.val (.int p0), .val (.int p1), .val (.int 2), .val (.int 2), .val (.ref a_ZERO_OR_ONE), .val (.ref a_ZERO_OR_ONE), .val (.int 1), .val (.int 1)] [(.ref a_ZERO_OR_ONE)])) rfl (by rw [hml]; rfl) (Steps.refl _) (argsL := []) (rest := []) (lenOf pd_2 rfl) rfl (by show 2 * 0 + _ ≤ _; exact Nat.le_of_eq rfl) (hb hby at_52) (fun _ _ => ⟨rfl, e5, (by decide : 0 + 0 ≤ _), (by decide : 0 + 0 ≤ _)⟩)
  dsimp only [Pt.U, Pt.locs, Pt.cells, Pt.slots] at X6 l6 y6 z6 st6 hQ6
  subst l6 y6 z6
  obtain ⟨rfl, Nq6, e6⟩ := hQ6
  have N6 := Fr.app N5 Nq6
  -- pc 66: com/example/pathwise/pathwise/sparql/PropertyPath$Repetition.around
  obtain ⟨cq7, kq7, q7a, q7b, q7c⟩ := isOf hZ e6 f6
  obtain ⟨_, _, ⟨T7, L7, k7, n7⟩, -, X7, ⟨Lc7, hQ7, l7, y7, z7⟩, st7⟩ := X6.virtualBack hx (y := M_4) (z := M_4) hown (mvT hZ (tw_18 hw)) (mvT hZ (tw_19 hw)) (notFace_of_selects (args := #[]) (mvT hZ (tw_21 hw))) (mvT hZ (tw_21 hw)) (mvT hZ (tw_20 hw)) (by decide) (backOf (W := 0) (rm4_39 l Z a0 hw [] a_ZERO_OR_ONE a_ONE_OR_MORE h0 n0 Z0 f4 f5 f6 f3) hZ (tw_22 hw) (tw_6 hw) (by decide) (by decide)) q7a q7c (g := (mkF m 66 #[.val (.int p0), .val (.int p1), .val (.int 2), .val (.int 2), .val (.ref a_ZERO_OR_ONE), .val (.ref a_ZERO_OR_ONE), .val (.int 1), .val (.int 1)] [(.ref a_ZERO_OR_ONE), (.ref a_ZERO_OR_ONE)])) rfl (by rw [hml]; rfl) (Steps.refl _) (argsL := [(.ref a_ZERO_OR_ONE)]) (rest := []) (lenOf pd_3 rfl) rfl (by show 2 * 0 + _ ≤ _; exact Nat.le_of_eq rfl) (hb hby at_66) (fun _ _ => ⟨rfl, e6, (by decide : 0 + 0 ≤ _), (by decide : 0 + 0 ≤ _)⟩)
  dsimp only [Pt.U, Pt.locs, Pt.cells, Pt.slots] at X7 l7 y7 z7 st7 hQ7
  subst l7 y7 z7
  obtain ⟨rfl, Nq7, e7⟩ := hQ7
  have N7 := Fr.app N6 Nq7
  -- pc 69: com/example/pathwise/pathwise/sparql/PropertyPath$Repetition.zeroLength
  obtain ⟨cq8, kq8, q8a, q8b, q8c⟩ := isOf hZ e7 f6
  obtain ⟨_, _, ⟨T8, L8, k8, n8⟩, -, X8, ⟨Lc8, hQ8, l8, y8, z8⟩, st8⟩ := X7.virtualBack hx (y := M_2) (z := M_2) hown (mvT hZ (tw_11 hw)) (mvT hZ (tw_12 hw)) (notFace_of_selects (args := #[]) (mvT hZ (tw_14 hw))) (mvT hZ (tw_14 hw)) (mvT hZ (tw_13 hw)) (by decide) (backOf (W := 0) (rm3_24 l Z a0 hw [] a_ZERO_OR_ONE a_ONE_OR_MORE h0 n0 Z0 f4 f5) hZ (tw_15 hw) (tw_6 hw) (by decide) (by decide)) q8a q8c (g := (mkF m 69 #[.val (.int p0), .val (.int p1), .val (.int 2), .val (.int 2), .val (.ref a_ZERO_OR_ONE), .val (.ref a_ZERO_OR_ONE), .val (.int 1), .val (.int 1)] [(.ref a_ZERO_OR_ONE)])) rfl (by rw [hml]; rfl) (Steps.refl _) (argsL := []) (rest := []) (lenOf pd_2 rfl) rfl (by show 2 * 0 + _ ≤ _; exact Nat.le_of_eq rfl) (hb hby at_69) (fun _ _ => ⟨rfl, e7, (by decide : 0 + 0 ≤ _), (by decide : 0 + 0 ≤ _)⟩)
  dsimp only [Pt.U, Pt.locs, Pt.cells, Pt.slots] at X8 l8 y8 z8 st8 hQ8
  subst l8 y8 z8
  obtain ⟨rfl, Nq8, e8⟩ := hQ8
  have N8 := Fr.app N7 Nq8
  obtain ⟨fs, hr, hrun, hended, hW, hsame⟩ := X8.leave (v := (some (.int 1))) (fun h => by rw [Bd.returns] at h; cases h)
  refine ⟨_, _, castTop (ef0_II m p0 p1) ?_, hrun, hended, _, _, rfl, ?_, ⟨_, rfl⟩, hW, hsame.mono (by decide) (by decide)⟩
  · show Steps p.tables e below (s₁.setTop (mkF m 0 #[.val (.int p0), .val (.int p1), .unset, .unset, .unset, .unset, .unset, .unset] [])) _
    refine XS.iloadN X0.here hx rfl (hb hby at_0) rfl ?_
    show Steps p.tables e below (s₁.setTop (mkF m 1 #[.val (.int p0), .val (.int p1), .unset, .unset, .unset, .unset, .unset, .unset] [(.int p0)])) _
    refine X0.ldcInt hx hown (mvT hZ (tw_0 hw)) (g := (mkF m 1 #[.val (.int p0), .val (.int p1), .unset, .unset, .unset, .unset, .unset, .unset] [(.int p0)])) rfl (hb hby at_1) _ ?_
    show Steps p.tables e below (s₁.setTop (mkF m 3 #[.val (.int p0), .val (.int p1), .unset, .unset, .unset, .unset, .unset, .unset] [(.int 2147483647), (.int p0)])) _
    refine XS.iand X0.here hx rfl (hb hby at_3) rfl ?_
    refine XS.iconst X0.here hx rfl (hb hby at_4) ?_
    show Steps p.tables e below (s₁.setTop (mkF m 5 #[.val (.int p0), .val (.int p1), .unset, .unset, .unset, .unset, .unset, .unset] [(.int 3), (.int (p0 &&& (2147483647 : Int32)))])) _
    refine iremM X0 hx rfl (hb hby at_5) rfl (by decide) ?_
    show Steps p.tables e below (s₁.setTop (mkF m 6 #[.val (.int p0), .val (.int p1), .unset, .unset, .unset, .unset, .unset, .unset] [(.int ((p0 &&& (2147483647 : Int32)) % (3 : Int32)))])) _
    rw [f1]
    refine XS.istoreN X0.here hx rfl (hb hby at_6) rfl (l' := #[.val (.int p0), .val (.int p1), .val (.int 2), .unset, .unset, .unset, .unset, .unset]) rfl ?_
    refine XS.iloadN X0.here hx rfl (hb hby at_7) rfl ?_
    show Steps p.tables e below (s₁.setTop (mkF m 8 #[.val (.int p0), .val (.int p1), .val (.int 2), .unset, .unset, .unset, .unset, .unset] [(.int p1)])) _
    refine X0.ldcInt hx hown (mvT hZ (tw_0 hw)) (g := (mkF m 8 #[.val (.int p0), .val (.int p1), .val (.int 2), .unset, .unset, .unset, .unset, .unset] [(.int p1)])) rfl (hb hby at_8) _ ?_
    show Steps p.tables e below (s₁.setTop (mkF m 10 #[.val (.int p0), .val (.int p1), .val (.int 2), .unset, .unset, .unset, .unset, .unset] [(.int 2147483647), (.int p1)])) _
    refine XS.iand X0.here hx rfl (hb hby at_10) rfl ?_
    refine XS.iconst X0.here hx rfl (hb hby at_11) ?_
    show Steps p.tables e below (s₁.setTop (mkF m 12 #[.val (.int p0), .val (.int p1), .val (.int 2), .unset, .unset, .unset, .unset, .unset] [(.int 3), (.int (p1 &&& (2147483647 : Int32)))])) _
    refine iremM X0 hx rfl (hb hby at_12) rfl (by decide) ?_
    show Steps p.tables e below (s₁.setTop (mkF m 13 #[.val (.int p0), .val (.int p1), .val (.int 2), .unset, .unset, .unset, .unset, .unset] [(.int ((p1 &&& (2147483647 : Int32)) % (3 : Int32)))])) _
    rw [f2]
    refine XS.istoreN X0.here hx rfl (hb hby at_13) rfl (l' := #[.val (.int p0), .val (.int p1), .val (.int 2), .val (.int 2), .unset, .unset, .unset, .unset]) rfl ?_
    refine XS.iloadN X0.here hx rfl (hb hby at_14) rfl ?_
    show Steps p.tables e below (s₁.setTop (mkF m 15 #[.val (.int p0), .val (.int p1), .val (.int 2), .val (.int 2), .unset, .unset, .unset, .unset] [(.int 2)])) _
    refine st1 _ ?_
    refine XS.astore X1.here hx rfl (hb hby at_18) rfl rfl (l' := #[.val (.int p0), .val (.int p1), .val (.int 2), .val (.int 2), .val (.ref a_ZERO_OR_ONE), .unset, .unset, .unset]) rfl ?_
    refine XS.iloadN X1.here hx rfl (hb hby at_20) rfl ?_
    show Steps p.tables e below (T1.setTop (mkF m 21 #[.val (.int p0), .val (.int p1), .val (.int 2), .val (.int 2), .val (.ref a_ZERO_OR_ONE), .unset, .unset, .unset] [(.int 2)])) _
    refine st2 _ ?_
    refine XS.astore X2.here hx rfl (hb hby at_24) rfl rfl (l' := #[.val (.int p0), .val (.int p1), .val (.int 2), .val (.int 2), .val (.ref a_ZERO_OR_ONE), .val (.ref a_ZERO_OR_ONE), .unset, .unset]) rfl ?_
    refine XS.iloadN X2.here hx rfl (hb hby at_26) rfl ?_
    show Steps p.tables e below (T2.setTop (mkF m 27 #[.val (.int p0), .val (.int p1), .val (.int 2), .val (.int 2), .val (.ref a_ZERO_OR_ONE), .val (.ref a_ZERO_OR_ONE), .unset, .unset] [(.int 2)])) _
    refine st3 _ ?_
    refine XS.istore X3.here hx rfl (hb hby at_30) rfl (l' := #[.val (.int p0), .val (.int p1), .val (.int 2), .val (.int 2), .val (.ref a_ZERO_OR_ONE), .val (.ref a_ZERO_OR_ONE), .val (.int 1), .unset]) rfl ?_
    refine XS.iloadN X3.here hx rfl (hb hby at_32) rfl ?_
    show Steps p.tables e below (T3.setTop (mkF m 33 #[.val (.int p0), .val (.int p1), .val (.int 2), .val (.int 2), .val (.ref a_ZERO_OR_ONE), .val (.ref a_ZERO_OR_ONE), .val (.int 1), .unset] [(.int 2)])) _
    refine st4 _ ?_
    refine XS.istore X4.here hx rfl (hb hby at_36) rfl (l' := #[.val (.int p0), .val (.int p1), .val (.int 2), .val (.int 2), .val (.ref a_ZERO_OR_ONE), .val (.ref a_ZERO_OR_ONE), .val (.int 1), .val (.int 1)]) rfl ?_
    refine XS.aload X4.here hx rfl (hb hby at_38) rfl rfl ?_
    show Steps p.tables e below (T4.setTop (mkF m 40 #[.val (.int p0), .val (.int p1), .val (.int 2), .val (.int 2), .val (.ref a_ZERO_OR_ONE), .val (.ref a_ZERO_OR_ONE), .val (.int 1), .val (.int 1)] [(.ref a_ZERO_OR_ONE)])) _
    refine st5.trans ?_
    refine XS.iload X5.here hx rfl (hb hby at_43) rfl ?_
    refine XS.icmpYes X5.here hx rfl (pc0 := 45) (pc' := 50) rfl (hb hby at_45) rfl (by decide) (by decide) (by decide) ?_
    refine XS.aload X5.here hx rfl (hb hby at_50) rfl rfl ?_
    show Steps p.tables e below (T5.setTop (mkF m 52 #[.val (.int p0), .val (.int p1), .val (.int 2), .val (.int 2), .val (.ref a_ZERO_OR_ONE), .val (.ref a_ZERO_OR_ONE), .val (.int 1), .val (.int 1)] [(.ref a_ZERO_OR_ONE)])) _
    refine st6.trans ?_
    refine XS.iload X6.here hx rfl (hb hby at_55) rfl ?_
    refine XS.icmpYes X6.here hx rfl (pc0 := 57) (pc' := 62) rfl (hb hby at_57) rfl (by decide) (by decide) (by decide) ?_
    refine XS.aload X6.here hx rfl (hb hby at_62) rfl rfl ?_
    refine XS.aload X6.here hx rfl (hb hby at_64) rfl rfl ?_
    show Steps p.tables e below (T6.setTop (mkF m 66 #[.val (.int p0), .val (.int p1), .val (.int 2), .val (.int 2), .val (.ref a_ZERO_OR_ONE), .val (.ref a_ZERO_OR_ONE), .val (.int 1), .val (.int 1)] [(.ref a_ZERO_OR_ONE), (.ref a_ZERO_OR_ONE)])) _
    refine st7.trans ?_
    show Steps p.tables e below (T7.setTop (mkF m 69 #[.val (.int p0), .val (.int p1), .val (.int 2), .val (.int 2), .val (.ref a_ZERO_OR_ONE), .val (.ref a_ZERO_OR_ONE), .val (.int 1), .val (.int 1)] [(.ref a_ZERO_OR_ONE)])) _
    refine st8.trans ?_
    refine XS.iload X8.here hx rfl (hb hby at_72) rfl ?_
    refine XS.ifYes X8.here hx rfl (pc0 := 74) (pc' := 82) rfl (hb hby at_74) rfl (by decide) (by decide) (by decide) ?_
    refine XS.iconst X8.here hx rfl (hb hby at_82) ?_
    refine XS.goto X8.here hx rfl (pc0 := 83) (pc' := 87) rfl (hb hby at_83) (by decide) (by decide) ?_
    show Steps p.tables e below (T8.setTop (mkF m 87 #[.val (.int p0), .val (.int p1), .val (.int 2), .val (.int 2), .val (.ref a_ZERO_OR_ONE), .val (.ref a_ZERO_OR_ONE), .val (.int 1), .val (.int 1)] [(.int 1), (.int 1)])) _
    refine XS.icmpNo X8.here hx rfl (hb hby at_87) rfl (by decide) ?_
    refine XS.iconst X8.here hx rfl (hb hby at_90) ?_
    refine XS.goto X8.here hx rfl (pc0 := 91) (pc' := 95) rfl (hb hby at_91) (by decide) (by decide) ?_
    show Steps p.tables e below (T8.setTop (mkF m 95 #[.val (.int p0), .val (.int p1), .val (.int 2), .val (.int 2), .val (.ref a_ZERO_OR_ONE), .val (.ref a_ZERO_OR_ONE), .val (.int 1), .val (.int 1)] [(.int 1)])) _
    exact retN X8 hx (t := .boolean) Bd.returns (by simp) (hb hby at_95) hr
  · show QT n0 _ T8.heap _
    rw [e8]
    exact ⟨rfl, N8⟩
set_option maxRecDepth 65536 in
set_option maxHeartbeats 40000000 in
theorem comes_1 {Post : Tables → Env → Array Value → State → Outcome → State → Prop} (hpost : ∀ tb e args s v u, (limb_1_1.after args s (.returned v) u = true ∧ limb_1_2.after args s (.returned v) u = true ∧ True) → FrameEnd s (.returned v) u (Jvm.fieldLocs frame_1_writes args s ++ Jvm.arrayLocs frame_1_arrays args s ++ Jvm.staticLocs frame_1_statics s) 0 0 → Post tb e args s (.returned v) u) :
    ArmFor flags0 classFile x code maxLocals ret World_1 tables_1 room_1 Calls_1 rest_1 Pre_1 Post := by
  intro l hfl _ _ p e ha hc hk s m args below hf hA hF happ hP
  obtain ⟨hcalls, hrest, hpre⟩ := hP
  obtain ⟨-, -, -, hnamed, -, -, -, hat⟩ := (Spec.applies_iff hf).mp happ
  obtain ⟨hg, hn⟩ := and_e (Cond.before_iff.mp (show (Jvm.Cond.and given_1 narrow_1).before args s = true from hpre))
  obtain ⟨k41, k42⟩ := and_e hg
  obtain ⟨k43, k44⟩ := and_e k42
  obtain ⟨w0, w1, rfl⟩ : ∃ w0 w1 : Value, args = #[w0, w1] := by
    have hs : args.size = 2 := by simpa [Cond.value, given_1] using k41
    obtain ⟨L⟩ := args
    match L, hs with
    | [w0, w1], _ => exact ⟨w0, w1, rfl⟩
  have hw := fun d (hd : d ∈ tables_1) => atoms_spec (ws := Jvm.Cond.code x code maxLocals ret :: tables_1) hat d (List.mem_cons_of_mem _ hd)
  have hfit : Fit s := fun {y c} hc i hi => by
    obtain ⟨ha, rfl⟩ := Array.getElem?_eq_some_iff.mp hc
    have q := List.all_eq_true.mp ((Array.all_eq_true_iff_forall_mem.mp hF) _ (Array.getElem_mem ha)) i (List.mem_range.mpr hi)
    simpa [Array.getElem?_eq_getElem hi] using q
  obtain ⟨p0, ei0⟩ := is_v k43
  obtain rfl : w0 = (.int p0) := Option.some.inj ei0
  obtain ⟨p1, ei1⟩ := is_v k44
  obtain rfl : w1 = (.int p1) := Option.some.inj ei1
  obtain ⟨g1, g2⟩ := and_e hn
  obtain ⟨g3, g4⟩ := and_e g2
  obtain ⟨g5, g6⟩ := and_e g4
  obtain ⟨g7, g8⟩ := and_e g6
  obtain ⟨g9, g10⟩ := and_e g8
  obtain ⟨a_ZERO_OR_MORE, ev_a_ZERO_OR_MORE⟩ := exa_v g1
  have S_a_ZERO_OR_MORE : Sta s s.heap "com/example/pathwise/pathwise/sparql/PropertyPath$Repetition" "ZERO_OR_MORE" "Lcom/example/pathwise/pathwise/sparql/PropertyPath$Repetition;" (.ref a_ZERO_OR_MORE) := Sta.start ev_a_ZERO_OR_MORE (Or.inr ⟨(tw_6 hw), (tw_7 hw)⟩)
  have E_a_ZERO_OR_MORE : Exa s s.heap a_ZERO_OR_MORE "com/example/pathwise/pathwise/sparql/PropertyPath$Repetition" := Exa.start ev_a_ZERO_OR_MORE g1
  obtain ⟨a_ONE_OR_MORE, ev_a_ONE_OR_MORE⟩ := exa_v g3
  have S_a_ONE_OR_MORE : Sta s s.heap "com/example/pathwise/pathwise/sparql/PropertyPath$Repetition" "ONE_OR_MORE" "Lcom/example/pathwise/pathwise/sparql/PropertyPath$Repetition;" (.ref a_ONE_OR_MORE) := Sta.start ev_a_ONE_OR_MORE (Or.inr ⟨(tw_6 hw), (tw_17 hw)⟩)
  have E_a_ONE_OR_MORE : Exa s s.heap a_ONE_OR_MORE "com/example/pathwise/pathwise/sparql/PropertyPath$Repetition" := Exa.start ev_a_ONE_OR_MORE g3
  obtain ⟨a_ZERO_OR_ONE, ev_a_ZERO_OR_ONE⟩ := exa_v g9
  have S_a_ZERO_OR_ONE : Sta s s.heap "com/example/pathwise/pathwise/sparql/PropertyPath$Repetition" "ZERO_OR_ONE" "Lcom/example/pathwise/pathwise/sparql/PropertyPath$Repetition;" (.ref a_ZERO_OR_ONE) := Sta.start ev_a_ZERO_OR_ONE (Or.inr ⟨(tw_6 hw), (tw_30 hw)⟩)
  have E_a_ZERO_OR_ONE : Exa s s.heap a_ZERO_OR_ONE "com/example/pathwise/pathwise/sparql/PropertyPath$Repetition" := Exa.start ev_a_ZERO_OR_ONE g9
  have F_ordinal_a_ZERO_OR_MORE : Fld s s.heap a_ZERO_OR_MORE "java/lang/Enum" "ordinal" "I" (.int (0 : Int32)) := own_fld ev_a_ZERO_OR_MORE g5
  have F_ordinal_a_ONE_OR_MORE : Fld s s.heap a_ONE_OR_MORE "java/lang/Enum" "ordinal" "I" (.int (1 : Int32)) := own_fld ev_a_ONE_OR_MORE g7
  have F_ordinal_a_ZERO_OR_ONE : Fld s s.heap a_ZERO_OR_ONE "java/lang/Enum" "ordinal" "I" (.int (2 : Int32)) := own_fld ev_a_ZERO_OR_ONE g10
  have M : MetFree l x (head1 (Jvm.Cond.code x code maxLocals ret :: tables_1) room_1) (fun a U => a = #[(.int p0), (.int p1)] ∧ s.Warmed39 U.vm ∧ U.heap = s.heap) (fun _ _ _ _ _ => True) (fun _ U o U' => ∃ v L, o = .returned v ∧ QT s.heap.size v U'.heap L ∧ FrameEnd U o U' L room_1.cells room_1.slots) := by
    rcases own_mod3 p0 with hk | hk | hk
    · rcases own_mod3 p1 with hj | hj | hj
      · exact rm0_16 l s _ hw tables_1 p0 p1 a_ZERO_OR_MORE a_ONE_OR_MORE a_ZERO_OR_ONE s.heap s.heap.size (Nat.le_refl _) hk hj S_a_ZERO_OR_MORE S_a_ONE_OR_MORE (Fld.ne F_ordinal_a_ZERO_OR_MORE F_ordinal_a_ONE_OR_MORE (by decide)) E_a_ZERO_OR_MORE S_a_ZERO_OR_ONE (Fld.ne F_ordinal_a_ZERO_OR_MORE F_ordinal_a_ZERO_OR_ONE (by decide))
      · exact rm0_21 l s _ hw tables_1 p0 p1 a_ZERO_OR_MORE a_ONE_OR_MORE a_ZERO_OR_ONE s.heap s.heap.size (Nat.le_refl _) hk hj S_a_ZERO_OR_MORE S_a_ONE_OR_MORE (Fld.ne F_ordinal_a_ZERO_OR_MORE F_ordinal_a_ONE_OR_MORE (by decide)) E_a_ZERO_OR_MORE E_a_ONE_OR_MORE S_a_ZERO_OR_ONE (Fld.ne F_ordinal_a_ZERO_OR_MORE F_ordinal_a_ZERO_OR_ONE (by decide))
      · exact rm0_26 l s _ hw tables_1 p0 p1 a_ZERO_OR_MORE a_ZERO_OR_ONE a_ONE_OR_MORE s.heap s.heap.size (Nat.le_refl _) hk hj S_a_ZERO_OR_MORE S_a_ZERO_OR_ONE S_a_ONE_OR_MORE (Fld.ne F_ordinal_a_ZERO_OR_MORE F_ordinal_a_ONE_OR_MORE (by decide)) E_a_ZERO_OR_MORE (Fld.ne F_ordinal_a_ONE_OR_MORE F_ordinal_a_ZERO_OR_ONE (by decide)) E_a_ZERO_OR_ONE (Fld.ne F_ordinal_a_ZERO_OR_MORE F_ordinal_a_ZERO_OR_ONE (by decide))
    · rcases own_mod3 p1 with hj | hj | hj
      · exact rm0_29 l s _ hw tables_1 p0 p1 a_ONE_OR_MORE a_ZERO_OR_MORE a_ZERO_OR_ONE s.heap s.heap.size (Nat.le_refl _) hk hj S_a_ONE_OR_MORE S_a_ZERO_OR_MORE E_a_ONE_OR_MORE (Fld.ne F_ordinal_a_ZERO_OR_MORE F_ordinal_a_ONE_OR_MORE (by decide)) E_a_ZERO_OR_MORE S_a_ZERO_OR_ONE (Fld.ne F_ordinal_a_ONE_OR_MORE F_ordinal_a_ZERO_OR_ONE (by decide))
      · exact rm0_31 l s _ hw tables_1 p0 p1 a_ONE_OR_MORE a_ZERO_OR_ONE s.heap s.heap.size (Nat.le_refl _) hk hj S_a_ONE_OR_MORE E_a_ONE_OR_MORE S_a_ZERO_OR_ONE (Fld.ne F_ordinal_a_ONE_OR_MORE F_ordinal_a_ZERO_OR_ONE (by decide))
      · exact rm0_33 l s _ hw tables_1 p0 p1 a_ONE_OR_MORE a_ZERO_OR_ONE a_ZERO_OR_MORE s.heap s.heap.size (Nat.le_refl _) hk hj S_a_ONE_OR_MORE S_a_ZERO_OR_ONE E_a_ONE_OR_MORE (Fld.ne F_ordinal_a_ONE_OR_MORE F_ordinal_a_ZERO_OR_ONE (by decide)) E_a_ZERO_OR_ONE S_a_ZERO_OR_MORE (Fld.ne F_ordinal_a_ZERO_OR_MORE F_ordinal_a_ONE_OR_MORE (by decide)) E_a_ZERO_OR_MORE
    · rcases own_mod3 p1 with hj | hj | hj
      · exact rm0_36 l s _ hw tables_1 p0 p1 a_ZERO_OR_ONE a_ZERO_OR_MORE a_ONE_OR_MORE s.heap s.heap.size (Nat.le_refl _) hk hj S_a_ZERO_OR_ONE S_a_ZERO_OR_MORE S_a_ONE_OR_MORE (Fld.ne F_ordinal_a_ONE_OR_MORE F_ordinal_a_ZERO_OR_ONE (by decide)) E_a_ZERO_OR_ONE (Fld.ne F_ordinal_a_ZERO_OR_MORE F_ordinal_a_ONE_OR_MORE (by decide)) E_a_ZERO_OR_MORE (Fld.ne F_ordinal_a_ZERO_OR_MORE F_ordinal_a_ZERO_OR_ONE (by decide))
      · exact rm0_38 l s _ hw tables_1 p0 p1 a_ZERO_OR_ONE a_ONE_OR_MORE a_ZERO_OR_MORE s.heap s.heap.size (Nat.le_refl _) hk hj S_a_ZERO_OR_ONE S_a_ONE_OR_MORE (Fld.ne F_ordinal_a_ONE_OR_MORE F_ordinal_a_ZERO_OR_ONE (by decide)) E_a_ZERO_OR_ONE E_a_ONE_OR_MORE S_a_ZERO_OR_MORE (Fld.ne F_ordinal_a_ZERO_OR_MORE F_ordinal_a_ONE_OR_MORE (by decide)) E_a_ZERO_OR_MORE
      · exact rm0_40 l s _ hw tables_1 p0 p1 a_ZERO_OR_ONE a_ONE_OR_MORE s.heap s.heap.size (Nat.le_refl _) hk hj S_a_ZERO_OR_ONE S_a_ONE_OR_MORE (Fld.ne F_ordinal_a_ONE_OR_MORE F_ordinal_a_ZERO_OR_ONE (by decide)) E_a_ZERO_OR_ONE
  obtain ⟨n, o, h1, h2, h3, _, L, rfl, ⟨rfl, N⟩, hq⟩ := M p e ha hc hk s m _ below hf ((Spec.applies_iff_loose hf).mp happ).1 ⟨rfl, State.Warmed39.refl s, rfl⟩ trivial
  refine ⟨n, _, h1, h2, h3, hpost _ _ _ _ _ _ ⟨Cond.after_iff.mpr rfl, Cond.after_iff.mpr (eq_i res_at (Term.int_eval (1)) rfl), trivial⟩ ⟨hq.1, hq.2.1, (hq.2.2.sift fun y hy => Or.inr (N y hy)).mono (by decide) (by decide)⟩⟩
theorem main_1_1 : Claimed_1_1 := comes_1 fun _ _ _ _ _ _ h hF => ⟨h.1, hF⟩
theorem main_1_2 : Claimed_1_2 := comes_1 fun _ _ _ _ _ _ h hF => ⟨h.2.1, hF⟩
end Jvm.Pilot.@@N@@
namespace Jvm.Pilot.@@N@@
open Jvm Jvm.ClassFile Sem Op Lib Jvm.Free Jvm.Stand Jvm.Pilot.@@N@@.Jvm.D
/-! MADE BY PROGRAM (witnessworld.py) out of the Statement's table words and the real class files: 10 classes; the members and pool entries that the words name. The judged class is class 1, her method 3. -/
namespace start1
open Jvm.ClassFile
def u (s : String) : CpInfo := .utf8 (stringToUtf16 s)
/-- a pool by its gaps: so many unusable entries, then the entry; so many at the end -/
def gap : Nat → List CpInfo → List CpInfo
  | 0, r => r
  | n + 1, r => .unusable :: gap n r
def poolList (es : List (Nat × CpInfo)) (last : Nat) : List CpInfo := es.foldr (fun e r => gap e.1 (e.2 :: r)) (gap last [])
def pool (es : List (Nat × CpInfo)) (last : Nat) : Array CpInfo := ⟨poolList es last⟩
def fileOf (pool : Array CpInfo) (this : Nat) (attrs : Array Attribute := #[]) (ms : Array MethodInfo := #[]) (fl : Nat := 33) (sup : Nat := 0) (ifs : Array Nat := #[]) (fds : Array FieldInfo := #[]) : ClassFile where
  minorVersion := 0
  majorVersion := 65
  constantPool := pool
  accessFlags := fl
  thisClass := this
  superClass := sup
  interfaces := ifs
  fields := fds
  methods := ms
  attributes := attrs
def plain (name : String) (sup : Option ClassId) : Class where
  name := name
  kind := .ordinary
  loader := none
  accessFlags := 33
  super := sup
  interfaces := #[]
  cf := none
  fields := #[]
  methods := #[]
  instanceTypes := #[]
  staticTypes := #[]
  resolved := #[]
  callSites := []
  init := .initialized
  statics := none
  mirror := none

def pool0 : Array CpInfo := pool [(5, u "<init>"), (0, u "()V"), (1, .class_ 10), (1, u "java/lang/Object")] 113

def k0m0 : Method := { name := "<init>", desc := "()V", sig := { parameters := [], returnType := none }, accessFlags := 1, code := none }
/-- java/lang/Object -/
def k0 : Class := { plain "java/lang/Object" none with
  accessFlags := 33
  interfaces := #[]
  cf := some (fileOf pool0 8 #[] #[{ accessFlags := 1, nameIndex := 5, descriptorIndex := 6, attributes := #[] }] 33 0 #[] #[])
  fields := #[]
  methods := #[k0m0]
  instanceTypes := #[]
  staticTypes := #[]
  resolved := Array.replicate 124 none
  statics := none }

def pool1 : Array CpInfo := pool [(2, .class_ 4), (1, u "java/lang/Object"), (0, u "<init>"), (0, u "()V"), (0, .fieldref 8 9), (0, .class_ 10), (0, .nameAndType 11 12), (0, u "com/example/pathwise/pathwise/sparql/PropertyPath$Repetition"), (0, u "ZERO_OR_MORE"), (0, u "Lcom/example/pathwise/pathwise/sparql/PropertyPath$Repetition;"), (0, .fieldref 8 14), (0, .nameAndType 15 12), (0, u "ONE_OR_MORE"), (0, .fieldref 8 17), (0, .nameAndType 18 12), (0, u "ZERO_OR_ONE"), (0, .integer 2147483647), (0, .methodref 21 22), (0, .class_ 23), (0, .nameAndType 24 25), (0, u "com/example/pathwise/pathwise/sparql/RepetitionZeroLengthPinLaw"), (0, u "pick"), (0, u "(I)Lcom/example/pathwise/pathwise/sparql/PropertyPath$Repetition;"), (0, .methodref 21 27), (0, .nameAndType 28 29), (0, u "expected"), (0, u "(I)Z"), (0, .methodref 8 31), (0, .nameAndType 32 33), (0, u "zeroLength"), (0, u "()Z"), (0, .methodref 8 35), (0, .nameAndType 36 37), (0, u "around"), (0, u "(Lcom/example/pathwise/pathwise/sparql/PropertyPath$Repetition;)Lcom/example/pathwise/pathwise/sparql/PropertyPath$Repetition;"), (3, u "law"), (0, u "(II)Z")] 6

def k1m0 : Method := { name := "<init>", desc := "()V", sig := { parameters := [], returnType := none }, accessFlags := 1, code := none }
def k1c1 : Code := { maxStack := 2, maxLocals := 1, code := method_2_code, exceptionTable := #[], attributes := #[] }
def k1m1 : Method := { name := "pick", desc := "(I)Lcom/example/pathwise/pathwise/sparql/PropertyPath$Repetition;", sig := { parameters := [.int], returnType := some (.object "com/example/pathwise/pathwise/sparql/PropertyPath$Repetition") }, accessFlags := 10, code := some k1c1 }
def k1c2 : Code := { maxStack := 2, maxLocals := 1, code := method_3_code, exceptionTable := #[], attributes := #[] }
def k1m2 : Method := { name := "expected", desc := "(I)Z", sig := { parameters := [.int], returnType := some .boolean }, accessFlags := 10, code := some k1c2 }
def k1c3 : Code := { maxStack := 2, maxLocals := 8, code := code, exceptionTable := #[], attributes := #[] }
def k1m3 : Method := { name := "law", desc := "(II)Z", sig := { parameters := [.int, .int], returnType := some .boolean }, accessFlags := 9, code := some k1c3 }
/-- com/example/pathwise/pathwise/sparql/RepetitionZeroLengthPinLaw -/
def k1 : Class := { plain "com/example/pathwise/pathwise/sparql/RepetitionZeroLengthPinLaw" (some 0) with
  accessFlags := 49
  interfaces := #[]
  cf := some (fileOf pool1 21 #[] #[{ accessFlags := 1, nameIndex := 5, descriptorIndex := 6, attributes := #[] }, { accessFlags := 10, nameIndex := 24, descriptorIndex := 25, attributes := #[] }, { accessFlags := 10, nameIndex := 28, descriptorIndex := 29, attributes := #[] }, { accessFlags := 9, nameIndex := 41, descriptorIndex := 42, attributes := #[] }] 49 2 #[] #[])
  fields := #[]
  methods := #[k1m0, k1m1, k1m2, k1m3]
  instanceTypes := #[]
  staticTypes := #[]
  resolved := Array.replicate 49 none
  statics := none }

def pool2 : Array CpInfo := pool [(1, .class_ 2), (0, u "java/lang/constant/Constable"), (0, .class_ 4), (0, u "java/lang/Object")] 6

/-- java/lang/constant/Constable -/
def k2 : Class := { plain "java/lang/constant/Constable" (some 0) with
  accessFlags := 1537
  interfaces := #[]
  cf := some (fileOf pool2 1 #[] #[] 1537 3 #[] #[])
  fields := #[]
  methods := #[]
  instanceTypes := #[]
  staticTypes := #[]
  resolved := Array.replicate 11 none
  statics := none }

def pool3 : Array CpInfo := pool [(1, .class_ 2), (0, u "java/lang/Comparable"), (0, .class_ 4), (0, u "java/lang/Object")] 7

/-- java/lang/Comparable -/
def k3 : Class := { plain "java/lang/Comparable" (some 0) with
  accessFlags := 1537
  interfaces := #[]
  cf := some (fileOf pool3 1 #[] #[] 1537 3 #[] #[])
  fields := #[]
  methods := #[]
  instanceTypes := #[]
  staticTypes := #[]
  resolved := Array.replicate 12 none
  statics := none }

def pool4 : Array CpInfo := pool [(1, .class_ 2), (0, u "java/io/Serializable"), (0, .class_ 4), (0, u "java/lang/Object")] 2

/-- java/io/Serializable -/
def k4 : Class := { plain "java/io/Serializable" (some 0) with
  accessFlags := 1537
  interfaces := #[]
  cf := some (fileOf pool4 1 #[] #[] 1537 3 #[] #[])
  fields := #[]
  methods := #[]
  instanceTypes := #[]
  staticTypes := #[]
  resolved := Array.replicate 7 none
  statics := none }

def pool5 : Array CpInfo := pool [(2, .class_ 4), (1, u "java/lang/Enum"), (0, u "name"), (0, u "Ljava/lang/String;"), (2, u "ordinal"), (0, u "I"), (1, .class_ 14), (1, u "java/lang/Object"), (4, u "hash"), (86, .class_ 108), (1, u "java/lang/Enum$EnumDesc"), (2, .class_ 112), (0, u "java/lang/constant/Constable"), (0, .class_ 114), (0, u "java/lang/Comparable"), (0, .class_ 116), (0, u "java/io/Serializable")] 87

/-- java/lang/Enum -/
def k5 : Class := { plain "java/lang/Enum" (some 0) with
  accessFlags := 1057
  interfaces := #[2, 3, 4]
  cf := some (fileOf pool5 2 #[.nestMembers #[106]] #[] 1057 12 #[111, 113, 115] #[{ accessFlags := 18, nameIndex := 5, descriptorIndex := 6, attributes := #[] }, { accessFlags := 18, nameIndex := 9, descriptorIndex := 10, attributes := #[] }, { accessFlags := 2, nameIndex := 19, descriptorIndex := 10, attributes := #[] }])
  fields := #[{ name := "name", type := (.object "java/lang/String"), accessFlags := 18, slot := 0, constantValue := 0 }, { name := "ordinal", type := .int, accessFlags := 18, slot := 1, constantValue := 0 }, { name := "hash", type := .int, accessFlags := 2, slot := 2, constantValue := 0 }]
  methods := #[]
  instanceTypes := #[(.object "java/lang/String"), .int, .int]
  staticTypes := #[]
  resolved := Array.replicate 204 none
  statics := none }

def pool6 : Array CpInfo := pool [(1, .class_ 2), (0, u "com/example/pathwise/pathwise/sparql/PropertyPath$Repetition"), (0, .fieldref 1 4), (0, .nameAndType 5 6), (0, u "ZERO_OR_MORE"), (0, u "Lcom/example/pathwise/pathwise/sparql/PropertyPath$Repetition;"), (0, .fieldref 1 8), (0, .nameAndType 9 6), (0, u "ONE_OR_MORE"), (0, .fieldref 1 11), (0, .nameAndType 12 6), (0, u "ZERO_OR_ONE"), (2, u "$VALUES"), (0, u "[Lcom/example/pathwise/pathwise/sparql/PropertyPath$Repetition;"), (6, .class_ 25), (1, u "java/lang/Enum"), (6, .methodref 1 33), (0, .nameAndType 34 35), (0, u "zeroLength"), (0, u "()Z"), (0, .methodref 1 37), (0, .nameAndType 38 35), (0, u "unbounded"), (16, u "around"), (0, u "(Lcom/example/pathwise/pathwise/sparql/PropertyPath$Repetition;)Lcom/example/pathwise/pathwise/sparql/PropertyPath$Repetition;"), (5, .class_ 63), (0, u "com/example/pathwise/pathwise/sparql/PropertyPath")] 2

def k6c0 : Code := { maxStack := 2, maxLocals := 1, code := prog_118_method_4_code, exceptionTable := #[], attributes := #[] }
def k6m0 : Method := { name := "zeroLength", desc := "()Z", sig := { parameters := [], returnType := some .boolean }, accessFlags := 0, code := some k6c0 }
def k6c1 : Code := { maxStack := 2, maxLocals := 1, code := prog_118_method_5_code, exceptionTable := #[], attributes := #[] }
def k6m1 : Method := { name := "unbounded", desc := "()Z", sig := { parameters := [], returnType := some .boolean }, accessFlags := 0, code := some k6c1 }
def k6c2 : Code := { maxStack := 1, maxLocals := 3, code := prog_118_method_6_code, exceptionTable := #[], attributes := #[] }
def k6m2 : Method := { name := "around", desc := "(Lcom/example/pathwise/pathwise/sparql/PropertyPath$Repetition;)Lcom/example/pathwise/pathwise/sparql/PropertyPath$Repetition;", sig := { parameters := [(.object "com/example/pathwise/pathwise/sparql/PropertyPath$Repetition")], returnType := some (.object "com/example/pathwise/pathwise/sparql/PropertyPath$Repetition") }, accessFlags := 0, code := some k6c2 }
/-- com/example/pathwise/pathwise/sparql/PropertyPath$Repetition -/
def k6 : Class := { plain "com/example/pathwise/pathwise/sparql/PropertyPath$Repetition" (some 5) with
  accessFlags := 16433
  interfaces := #[]
  cf := some (fileOf pool6 1 #[.nestHost 62] #[{ accessFlags := 0, nameIndex := 34, descriptorIndex := 35, attributes := #[] }, { accessFlags := 0, nameIndex := 38, descriptorIndex := 35, attributes := #[] }, { accessFlags := 0, nameIndex := 55, descriptorIndex := 56, attributes := #[] }] 16433 23 #[] #[{ accessFlags := 16409, nameIndex := 5, descriptorIndex := 6, attributes := #[] }, { accessFlags := 16409, nameIndex := 9, descriptorIndex := 6, attributes := #[] }, { accessFlags := 16409, nameIndex := 12, descriptorIndex := 6, attributes := #[] }, { accessFlags := 4122, nameIndex := 15, descriptorIndex := 16, attributes := #[] }])
  fields := #[{ name := "ZERO_OR_MORE", type := (.object "com/example/pathwise/pathwise/sparql/PropertyPath$Repetition"), accessFlags := 16409, slot := 0, constantValue := 0 }, { name := "ONE_OR_MORE", type := (.object "com/example/pathwise/pathwise/sparql/PropertyPath$Repetition"), accessFlags := 16409, slot := 1, constantValue := 0 }, { name := "ZERO_OR_ONE", type := (.object "com/example/pathwise/pathwise/sparql/PropertyPath$Repetition"), accessFlags := 16409, slot := 2, constantValue := 0 }, { name := "$VALUES", type := (.array (.object "com/example/pathwise/pathwise/sparql/PropertyPath$Repetition")), accessFlags := 4122, slot := 3, constantValue := 0 }]
  methods := #[k6m0, k6m1, k6m2]
  instanceTypes := #[(.object "java/lang/String"), .int, .int]
  staticTypes := #[(.object "com/example/pathwise/pathwise/sparql/PropertyPath$Repetition"), (.object "com/example/pathwise/pathwise/sparql/PropertyPath$Repetition"), (.object "com/example/pathwise/pathwise/sparql/PropertyPath$Repetition"), (.array (.object "com/example/pathwise/pathwise/sparql/PropertyPath$Repetition"))]
  resolved := Array.replicate 66 none
  statics := some 0 }

def pool7 : Array CpInfo := pool [(1, u "java/lang/Cloneable"), (0, .class_ 1), (0, u "java/lang/Object"), (0, .class_ 3)] 3

/-- java/lang/Cloneable -/
def k7 : Class := { plain "java/lang/Cloneable" (some 0) with
  accessFlags := 1537
  interfaces := #[]
  cf := some (fileOf pool7 2 #[] #[] 1537 4 #[] #[])
  fields := #[]
  methods := #[]
  instanceTypes := #[]
  staticTypes := #[]
  resolved := Array.replicate 8 none
  statics := none }

/-- the primitive byte -/
def k8 : Class := { plain "byte" none with kind := .primitive 'B', accessFlags := 0x411 }
/-- [B -/
def k9 : Class := { plain "[B" (some 0) with kind := .array 8 .byte, interfaces := #[7, 4], accessFlags := 1041 }

def heap : Heap := #[{ cls := 6, slots := #[.ref 1, .ref 2, .ref 3, .null], vm := .statics 6 },
  { cls := 6, slots := #[.null, .int 0, .int 0], vm := .none },
  { cls := 6, slots := #[.null, .int 1, .int 0], vm := .none },
  { cls := 6, slots := #[.null, .int 2, .int 0], vm := .none }]
def classes : Array Class := #[k0, k1, k2, k3, k4, k5, k6, k7, k8, k9]
def interned : List (Array UInt16 × Addr) := []
def slotsUsed : Nat := 13
def theMethod : MethodId := ⟨1, 3⟩
def args0 : Array Value := #[.int 5, .int 3]
def aboutOver (below : List Frame) : State where
  vm := { classes := classes, interned := interned.toArray }
  heap := heap
  slotsUsed := slotsUsed
  threads := #[{ frames := .invoking theMethod args0 :: below }]
def below0 : List Frame := [.native { method := ⟨0, 0⟩, args := #[] }]
def about1 : State := aboutOver below0
def p0 : Program := .bare "" "" ""
def e0 : Env := launch0.env 0 0 0
theorem w_frames : about1.frames = Frame.invoking theMethod args0 :: below0 := rfl
set_option maxRecDepth 65536 in
theorem w_args : argsFit about1.vm theMethod args0 = true := by decide +kernel
set_option maxRecDepth 65536 in
theorem w_heap : heapFits about1 = true := by decide +kernel
set_option maxRecDepth 65536 in
theorem w_runnable : about1.curStatus? = some .runnable := by decide +kernel
set_option maxRecDepth 65536 in
theorem w_alone : about1.alone = true := by decide +kernel
set_option maxRecDepth 65536 in
theorem w_named : about1.methodNamed? x = some theMethod := by decide +kernel
set_option maxRecDepth 65536 in
theorem w_hears : about1.hears theMethod below0 = true := by decide +kernel
set_option maxRecDepth 65536 in
theorem w_ripe : about1.ripe theMethod args0 below0 = true := by decide +kernel
theorem w_running : about1.status = .running := rfl
set_option maxRecDepth 65536 in
theorem w_room : about1.hasRoom e0.platform room_1 = true :=
  launch0.hasRoom_least _ room_1 (by decide +kernel) (by decide +kernel) (by decide +kernel) (by decide +kernel) (by decide +kernel) (by decide +kernel)
theorem allAtoms_all (ts : List Jvm.Cond) (a : Array Jvm.Value) (st : Jvm.State) : (allAtoms ts).before a st = ts.all (fun c => c.before a st) := by
  induction ts with
  | nil => rfl
  | cons c t ih =>
    show (Jvm.Cond.and c (allAtoms t)).before a st = _
    rw [Jvm.Cond.before_and, ih, List.all_cons]
def words1 : List Jvm.Cond := Jvm.Cond.code x code maxLocals ret :: tables_1
/-- a 'code' word, met by the world's own term for the bytes: nothing is compared byte by byte -/
theorem code_word {y : MethodName} {bytes : ByteArray} {mx : Nat} {rt : Option FieldType} {a : Array Value} {s : State} {m : MethodId} {meth : Method} {c : Code} (h1 : s.methodNamed? y = some m) (h2 : s.vm.method? m = some meth) (h3 : meth.code = some c) (h4 : c.code = bytes)
    (h5 : (c.maxLocals == mx && c.exceptionTable.isEmpty && decide (c.maxStack ≤ mostOperands) && decide (meth.sig.returnType = rt) && !meth.locks && decide (parseMethodDescriptor y.desc = some meth.sig)) = true) : (Jvm.Cond.code y bytes mx rt).before a s = true := by
  simp only [Bool.and_eq_true, beq_iff_eq, Bool.not_eq_true', decide_eq_true_eq] at h5
  obtain ⟨⟨⟨⟨⟨g1, g2⟩, g3⟩, g4⟩, g5⟩, g6⟩ := h5
  simp [Cond.before, Cond.holds, Cond.value, h1, h2, h3, h4, g1, g2, g3, g4, g5, g6]
def isCode : Jvm.Cond → Bool
  | .code _ _ _ _ => true
  | _ => false
theorem all_split {L : List Jvm.Cond} {P : Jvm.Cond → Bool} (h1 : L.all (fun c => isCode c || P c) = true) (h2 : ∀ c ∈ L.filter isCode, P c = true) : L.all P = true := by
  refine List.all_eq_true.mpr fun c hc => ?_
  have h := List.all_eq_true.mp h1 c hc
  rcases Bool.eq_false_or_eq_true (isCode c) with hi | hi
  · exact h2 c (List.mem_filter.mpr ⟨hc, hi⟩)
  · simpa [hi] using h
set_option maxRecDepth 65536 in
theorem w_c0 : (Jvm.Cond.code x code maxLocals ret).before args0 about1 = true := code_word (m := ⟨1, 3⟩) (meth := k1m3) (c := k1c3) (by decide +kernel) rfl rfl rfl (by decide +kernel)
set_option maxRecDepth 65536 in
theorem w_c1 : (Jvm.Cond.code ({ cls := "com/example/pathwise/pathwise/sparql/RepetitionZeroLengthPinLaw", name := "pick", desc := "(I)Lcom/example/pathwise/pathwise/sparql/PropertyPath$Repetition;" } : Jvm.MethodName) method_2_code (1 : Nat) (Option.some (Jvm.ClassFile.FieldType.object "com/example/pathwise/pathwise/sparql/PropertyPath$Repetition"))).before args0 about1 = true := code_word (m := ⟨1, 1⟩) (meth := k1m1) (c := k1c1) (by decide +kernel) rfl rfl rfl (by decide +kernel)
set_option maxRecDepth 65536 in
theorem w_c2 : (Jvm.Cond.code ({ cls := "com/example/pathwise/pathwise/sparql/RepetitionZeroLengthPinLaw", name := "expected", desc := "(I)Z" } : Jvm.MethodName) method_3_code (1 : Nat) (Option.some Jvm.ClassFile.FieldType.boolean)).before args0 about1 = true := code_word (m := ⟨1, 2⟩) (meth := k1m2) (c := k1c2) (by decide +kernel) rfl rfl rfl (by decide +kernel)
set_option maxRecDepth 65536 in
theorem w_c3 : (Jvm.Cond.code ({ cls := "com/example/pathwise/pathwise/sparql/PropertyPath$Repetition", name := "zeroLength", desc := "()Z" } : Jvm.MethodName) prog_118_method_4_code (1 : Nat) (Option.some Jvm.ClassFile.FieldType.boolean)).before args0 about1 = true := code_word (m := ⟨6, 0⟩) (meth := k6m0) (c := k6c0) (by decide +kernel) rfl rfl rfl (by decide +kernel)
set_option maxRecDepth 65536 in
theorem w_c4 : (Jvm.Cond.code ({ cls := "com/example/pathwise/pathwise/sparql/PropertyPath$Repetition", name := "around", desc := "(Lcom/example/pathwise/pathwise/sparql/PropertyPath$Repetition;)Lcom/example/pathwise/pathwise/sparql/PropertyPath$Repetition;" } : Jvm.MethodName) prog_118_method_6_code (3 : Nat) (Option.some (Jvm.ClassFile.FieldType.object "com/example/pathwise/pathwise/sparql/PropertyPath$Repetition"))).before args0 about1 = true := code_word (m := ⟨6, 2⟩) (meth := k6m2) (c := k6c2) (by decide +kernel) rfl rfl rfl (by decide +kernel)
set_option maxRecDepth 65536 in
theorem w_c5 : (Jvm.Cond.code ({ cls := "com/example/pathwise/pathwise/sparql/PropertyPath$Repetition", name := "unbounded", desc := "()Z" } : Jvm.MethodName) prog_118_method_5_code (1 : Nat) (Option.some Jvm.ClassFile.FieldType.boolean)).before args0 about1 = true := code_word (m := ⟨6, 1⟩) (meth := k6m1) (c := k6c1) (by decide +kernel) rfl rfl rfl (by decide +kernel)
def codes1 : List Jvm.Cond := [Jvm.Cond.code x code maxLocals ret, Jvm.Cond.code ({ cls := "com/example/pathwise/pathwise/sparql/RepetitionZeroLengthPinLaw", name := "pick", desc := "(I)Lcom/example/pathwise/pathwise/sparql/PropertyPath$Repetition;" } : Jvm.MethodName) method_2_code (1 : Nat) (Option.some (Jvm.ClassFile.FieldType.object "com/example/pathwise/pathwise/sparql/PropertyPath$Repetition")), Jvm.Cond.code ({ cls := "com/example/pathwise/pathwise/sparql/RepetitionZeroLengthPinLaw", name := "expected", desc := "(I)Z" } : Jvm.MethodName) method_3_code (1 : Nat) (Option.some Jvm.ClassFile.FieldType.boolean), Jvm.Cond.code ({ cls := "com/example/pathwise/pathwise/sparql/PropertyPath$Repetition", name := "zeroLength", desc := "()Z" } : Jvm.MethodName) prog_118_method_4_code (1 : Nat) (Option.some Jvm.ClassFile.FieldType.boolean), Jvm.Cond.code ({ cls := "com/example/pathwise/pathwise/sparql/PropertyPath$Repetition", name := "around", desc := "(Lcom/example/pathwise/pathwise/sparql/PropertyPath$Repetition;)Lcom/example/pathwise/pathwise/sparql/PropertyPath$Repetition;" } : Jvm.MethodName) prog_118_method_6_code (3 : Nat) (Option.some (Jvm.ClassFile.FieldType.object "com/example/pathwise/pathwise/sparql/PropertyPath$Repetition")), Jvm.Cond.code ({ cls := "com/example/pathwise/pathwise/sparql/PropertyPath$Repetition", name := "unbounded", desc := "()Z" } : Jvm.MethodName) prog_118_method_5_code (1 : Nat) (Option.some Jvm.ClassFile.FieldType.boolean)]
set_option maxRecDepth 65536 in
theorem codes_eq : words1.filter isCode = codes1 := rfl
theorem w_codes : ∀ c ∈ words1.filter isCode, c.before args0 about1 = true := by
  rw [codes_eq]
  intro c hc
  simp only [codes1, List.mem_cons, List.not_mem_nil, or_false] at hc
  rcases hc with rfl | rfl | rfl | rfl | rfl | rfl
  · exact w_c0
  · exact w_c1
  · exact w_c2
  · exact w_c3
  · exact w_c4
  · exact w_c5
set_option maxRecDepth 65536 in
theorem w_t1 : (words1.take 24).all (fun c => isCode c || c.before args0 about1) = true := by decide +kernel
set_option maxRecDepth 65536 in
theorem w_t2 : (words1.drop 24).all (fun c => isCode c || c.before args0 about1) = true := by decide +kernel
theorem w_tables : (allAtoms (Jvm.Cond.code x code maxLocals ret :: tables_1)).before args0 about1 = true := by
  rw [allAtoms_all]
  show words1.all (fun c => c.before args0 about1) = true
  refine all_split ?_ w_codes
  rw [← List.take_append_drop 24 words1, List.all_append, w_t1, w_t2]
  rfl
set_option maxRecDepth 65536 in
theorem w_case : (Jvm.Cond.and given_1 narrow_1).before args0 about1 = true := by decide +kernel
theorem w_applies : (headSpec (Jvm.Cond.code x code maxLocals ret :: tables_1) room_1).applies x e0.platform about1 = true :=
  (Spec.applies_iff w_frames).mpr ⟨w_running, w_runnable, w_alone, w_named, w_hears, w_ripe, w_room, w_tables⟩
theorem atStart : AtStart classFile x code maxLocals ret World_1 tables_1 room_1 Calls_1 rest_1 Pre_1 launch0 p0 e0 about1 theMethod args0 below0 :=
  ⟨lists_1, trivial, launch0.admits_env _ _ _, launch0.least_env, fairChoices_fair.cas, fairChoices_fair.clock, w_frames, w_args, w_heap, w_applies, trivial, trivial, w_case⟩
end start1
theorem witness_1 : WitnessClaimed_1 := ⟨start1.p0, start1.e0, start1.about1, start1.theMethod, start1.args0, start1.below0, start1.atStart⟩
end Jvm.Pilot.@@N@@
