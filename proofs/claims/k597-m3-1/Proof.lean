import JvmDerived
import JvmDerived.Pilot.@@N@@Statement
import JvmDerived.Pilot.@@N@@Code
set_option linter.unusedVariables false
set_option linter.unusedSimpArgs false
namespace Jvm.RoadKit
open Sem ClassFile Op Lib Jvm.Stand Jvm.Free Jvm.LawKit
section New
variable {p : Program} {l : Launch} {e : Env} {R : Room} {s : State} {m : MethodId} {args : Array Value} {below : List Frame} {meth : Method} {c : Code} {T : State} {locs : List Loc} {cells slots : Nat}
theorem retI (X : Stand p l e R s m args below meth c T locs cells slots) (hx : p.tables.exec = Jvm.exec) {pc : Nat} {Ls : Array Slot} {z : Int32} {rest : List Value} (hret : meth.sig.returnType = some .int) (hd : decode c.code pc = .ok (.ireturn, 1)) {fs : List Frame}
    (hl : ∀ (f : JFrame) (acts : List Action), f.method = m → f.locked = none → f.entered = [] → (doReturn e (T.setTop f) acts (some (.int z))).1 = T.setFrames fs) : Steps p.tables e below (T.setTop (mkF m pc Ls (.int z :: rest))) (T.setFrames fs) := by
  have hm' : T.vm.method? m = some meth := X.method'
  have hn : narrow .int (.int z) = .int z := rfl
  show Steps p.tables e below (T.setTop { method := m, pc := pc, locals := Ls, stack := _ :: rest, locked := none }) _
  jvm_step X.here [X.here.top, hx, hd, hm', hret, hn]
  first | (intro acts; rw [hl _ acts rfl rfl rfl]) | rw [hl _ _ rfl rfl rfl]
  exact Steps.refl _
end New
end Jvm.RoadKit
namespace Jvm.Pilot.@@N@@
open Jvm Jvm.ClassFile Sem Op Lib Jvm.Free Jvm.Stand Jvm.LawKit Jvm.RoadKit Bundle Jvm.Pilot.@@N@@.Jvm.D
def QT (n0 : Nat) (v : Option Value) (h : Heap) (L : List Loc) : Prop := v = some (.int 1) ∧ Fr n0 L
def QP (r : Option Value) (h0 : Heap) (n0 : Nat) (v : Option Value) (h : Heap) (L : List Loc) : Prop := v = r ∧ Fr n0 L ∧ h = h0
theorem own_fld {Z : State} {args : Array Value} {t : Term} {C n d : String} {a : Addr} {i : Int32} (ev : t.eval args Z none [] Z = some (.ref a)) (h : (Cond.eq (Term.field t C n d) (Term.int i)).value args Z none Z [] = some true) : Fld Z Z.heap a C n d (.int i) := by
  have e := fld_at (C := C) (n := n) (dd := d) ev
  refine Fld.start ?_
  obtain ⟨x, y, h1, h2, k1, k2⟩ := cmp_v (Or.inl h)
  have h3 : y = .int i := (Option.some.inj ((Term.int_eval i).symm.trans h2)).symm
  subst h3
  obtain ⟨z, rfl⟩ := k2
  have q : z = i := by simpa [Cond.value, h1, h2] using h
  rw [← e, h1, q]
theorem own_tri (x : Int32) : (x < (0 : Int32) ∧ ¬ ((0 : Int32) < x) ∧ ¬ (x = (0 : Int32))) ∨ (¬ (x < (0 : Int32)) ∧ ¬ ((0 : Int32) < x) ∧ x = (0 : Int32)) ∨ (¬ (x < (0 : Int32)) ∧ (0 : Int32) < x ∧ ¬ (x = (0 : Int32))) := by
  simp only [Int32.lt_iff_toInt_lt, ← Int32.toInt_inj]
  have e : (0 : Int32).toInt = 0 := by decide
  omega
theorem tw_1 {a0 : Array Value} {Z : State} (hw : ∀ d ∈ tables_1, d.before a0 Z = true) : (Jvm.Cond.initialized "com/example/orderweft/orderweft/rules/Criterion$Comparison").before a0 Z = true := hw _ (List.mem_of_getElem? (i := 1) rfl)
theorem tw_2 {a0 : Array Value} {Z : State} (hw : ∀ d ∈ tables_1, d.before a0 Z = true) : (Jvm.Cond.laysStatic "com/example/orderweft/orderweft/rules/Criterion$Comparison" "LESS" "Lcom/example/orderweft/orderweft/rules/Criterion$Comparison;").before a0 Z = true := hw _ (List.mem_of_getElem? (i := 2) rfl)
abbrev S_0 (Z : State) (h : Heap) (v : Value) : Prop := Sta Z h "com/example/orderweft/orderweft/rules/Criterion$Comparison" "LESS" "Lcom/example/orderweft/orderweft/rules/Criterion$Comparison;" v
abbrev E_0 (Z : State) (h : Heap) (a : Addr) : Prop := Exa Z h a "com/example/orderweft/orderweft/rules/Criterion$Comparison"
theorem tw_18 {a0 : Array Value} {Z : State} (hw : ∀ d ∈ tables_1, d.before a0 Z = true) : (Jvm.Cond.laysStatic "com/example/orderweft/orderweft/rules/Criterion$Comparison" "AT_MOST" "Lcom/example/orderweft/orderweft/rules/Criterion$Comparison;").before a0 Z = true := hw _ (List.mem_of_getElem? (i := 18) rfl)
abbrev S_1 (Z : State) (h : Heap) (v : Value) : Prop := Sta Z h "com/example/orderweft/orderweft/rules/Criterion$Comparison" "AT_MOST" "Lcom/example/orderweft/orderweft/rules/Criterion$Comparison;" v
theorem tw_20 {a0 : Array Value} {Z : State} (hw : ∀ d ∈ tables_1, d.before a0 Z = true) : (Jvm.Cond.laysStatic "com/example/orderweft/orderweft/rules/Criterion$Comparison" "EQUAL" "Lcom/example/orderweft/orderweft/rules/Criterion$Comparison;").before a0 Z = true := hw _ (List.mem_of_getElem? (i := 20) rfl)
abbrev S_2 (Z : State) (h : Heap) (v : Value) : Prop := Sta Z h "com/example/orderweft/orderweft/rules/Criterion$Comparison" "EQUAL" "Lcom/example/orderweft/orderweft/rules/Criterion$Comparison;" v
theorem tw_22 {a0 : Array Value} {Z : State} (hw : ∀ d ∈ tables_1, d.before a0 Z = true) : (Jvm.Cond.laysStatic "com/example/orderweft/orderweft/rules/Criterion$Comparison" "AT_LEAST" "Lcom/example/orderweft/orderweft/rules/Criterion$Comparison;").before a0 Z = true := hw _ (List.mem_of_getElem? (i := 22) rfl)
abbrev S_3 (Z : State) (h : Heap) (v : Value) : Prop := Sta Z h "com/example/orderweft/orderweft/rules/Criterion$Comparison" "AT_LEAST" "Lcom/example/orderweft/orderweft/rules/Criterion$Comparison;" v
theorem tw_24 {a0 : Array Value} {Z : State} (hw : ∀ d ∈ tables_1, d.before a0 Z = true) : (Jvm.Cond.laysStatic "com/example/orderweft/orderweft/rules/Criterion$Comparison" "GREATER" "Lcom/example/orderweft/orderweft/rules/Criterion$Comparison;").before a0 Z = true := hw _ (List.mem_of_getElem? (i := 24) rfl)
abbrev S_4 (Z : State) (h : Heap) (v : Value) : Prop := Sta Z h "com/example/orderweft/orderweft/rules/Criterion$Comparison" "GREATER" "Lcom/example/orderweft/orderweft/rules/Criterion$Comparison;" v
abbrev F_0 (Z : State) (h : Heap) (a : Addr) (v : Value) : Prop := Fld Z h a "java/lang/Enum" "ordinal" "I" v
theorem tw_0 {a0 : Array Value} {Z : State} (hw : ∀ d ∈ tables_1, d.before a0 Z = true) : (Jvm.Cond.fieldLink "com/example/orderweft/orderweft/rules/ComparisonAcceptsPinLaw" (7 : Nat) "com/example/orderweft/orderweft/rules/Criterion$Comparison" "LESS" "Lcom/example/orderweft/orderweft/rules/Criterion$Comparison;").before a0 Z = true := hw _ (List.mem_of_getElem? (i := 0) rfl)
theorem tw_3 {a0 : Array Value} {Z : State} (hw : ∀ d ∈ tables_1, d.before a0 Z = true) : (Jvm.Cond.methodLink "com/example/orderweft/orderweft/rules/ComparisonAcceptsPinLaw" (13 : Nat) ({ cls := "com/example/orderweft/orderweft/rules/Criterion$Comparison", name := "accepts", desc := "(I)Z" } : Jvm.MethodName)).before a0 Z = true := hw _ (List.mem_of_getElem? (i := 3) rfl)
theorem tw_7 {a0 : Array Value} {Z : State} (hw : ∀ d ∈ tables_1, d.before a0 Z = true) : (Jvm.Cond.code ({ cls := "com/example/orderweft/orderweft/rules/Criterion$Comparison", name := "accepts", desc := "(I)Z" } : Jvm.MethodName) prog_61_method_4_code (2 : Nat) (Option.some Jvm.ClassFile.FieldType.boolean)).before a0 Z = true := hw _ (List.mem_of_getElem? (i := 7) rfl)
theorem d1_0 : decode prog_61_method_4_code 0 = .ok (.aload_n 0, 1) := by decide +kernel
theorem d1_1 : decode prog_61_method_4_code 1 = .ok (.invokevirtual 42, 3) := by decide +kernel
theorem tw_8 {a0 : Array Value} {Z : State} (hw : ∀ d ∈ tables_1, d.before a0 Z = true) : (Jvm.Cond.methodLink "com/example/orderweft/orderweft/rules/Criterion$Comparison" (42 : Nat) ({ cls := "com/example/orderweft/orderweft/rules/Criterion$Comparison", name := "ordinal", desc := "()I" } : Jvm.MethodName)).before a0 Z = true := hw _ (List.mem_of_getElem? (i := 8) rfl)
theorem tw_14 {a0 : Array Value} {Z : State} (hw : ∀ d ∈ tables_1, d.before a0 Z = true) : (Jvm.Cond.code ({ cls := "java/lang/Enum", name := "ordinal", desc := "()I" } : Jvm.MethodName) jdk_37_method_2_code (1 : Nat) (Option.some Jvm.ClassFile.FieldType.int)).before a0 Z = true := hw _ (List.mem_of_getElem? (i := 14) rfl)
theorem d2_0 : decode jdk_37_method_2_code 0 = .ok (.aload_n 0, 1) := by decide +kernel
theorem d2_1 : decode jdk_37_method_2_code 1 = .ok (.getfield 7, 3) := by decide +kernel
theorem tw_15 {a0 : Array Value} {Z : State} (hw : ∀ d ∈ tables_1, d.before a0 Z = true) : (Jvm.Cond.fieldLink "java/lang/Enum" (7 : Nat) "java/lang/Enum" "ordinal" "I").before a0 Z = true := hw _ (List.mem_of_getElem? (i := 15) rfl)
theorem d2_4 : decode jdk_37_method_2_code 4 = .ok (.ireturn, 1) := by decide +kernel
abbrev R_0_0_0_0 : Room := { frames := 0, cells := 0, slots := 0, locals := 0 }
abbrev M_0 : MethodName := ⟨"java/lang/Enum", "ordinal", "()I"⟩
theorem ef2_R (m : MethodId) (x0 : Addr) : entryFrame m #[(.ref x0)] 1 = mkF m 0 #[.val (.ref x0)] [] := by first | (simp [entryFrame, mkF, argsToLocals, Value.category]; done) | rfl
theorem pn_java_lang_Enum : plainName "java/lang/Enum" = true := by first | (simp [plainName, overriddenIn]; done) | decide +kernel
set_option maxRecDepth 65536 in
set_option maxHeartbeats 40000000 in
theorem rm2_19 (l : Launch) (Z : State) (a0 : Array Value) (hw : ∀ d ∈ tables_1, d.before a0 Z = true) (ws : List Jvm.Cond) (a_LESS : Addr) (h0 : Heap) (n0 : Nat) (Z0 : n0 ≤ h0.size) (f1 : F_0 Z h0 a_LESS (.int 0)) :
    MetFree l M_0 (head1 (Jvm.Cond.code M_0 jdk_37_method_2_code 1 (some .int) :: ws) R_0_0_0_0) (fun a U => a = #[(.ref a_LESS)] ∧ Z.Warmed39 U.vm ∧ U.heap = h0) (fun _ _ _ _ _ => True) (fun _ U o U' => ∃ v L, o = .returned v ∧ QP (some (.int 0)) h0 n0 v U'.heap L ∧ FrameEnd U o U' L R_0_0_0_0.cells R_0_0_0_0.slots) := by
  refine MetFree.of_bodySF (plainFor_of_name pn_java_lang_Enum) hisR ?_
  intro p e s m args below meth c s₁ Bd hml0 hP hK
  obtain ⟨rfl, hZ, hh⟩ := hP
  have hx := Bd.exec
  have hby := Bd.bytes
  have hml : c.maxLocals = 1 := hml0
  have hown : s.vm.findClass "java/lang/Enum" = some m.cls := findClass_of_methodNamed Bd.named
  have hnm := (name_of_methodNamed Bd.named Bd.method).1
  have X0 : Stand p l e R_0_0_0_0 s m #[(.ref a_LESS)] below meth c s₁ [] 0 0 := Stand.of_body Bd
  have e0 : s₁.heap = h0 := by rw [← hh, Bd.state]; rfl
  have N0 := Fr.nil n0
  obtain ⟨T1, X1, e1, st1⟩ := getF X0 hx hZ hown (host := "") (Or.inl (tw_15 hw)) Via.refl e0 f1 (g := (mkF m 1 #[.val (.ref a_LESS)] [(.ref a_LESS)])) rfl rfl (hb hby d2_1)
  obtain ⟨fs, hr, hrun, hended, hW, hsame⟩ := X1.leave (v := (some (.int 0))) (fun h => by rw [Bd.returns] at h; cases h)
  refine ⟨_, _, castTop (ef2_R m a_LESS) ?_, hrun, hended, _, _, rfl, ?_, ⟨_, rfl⟩, hW, hsame.mono (by decide) (by decide)⟩
  · show Steps p.tables e below (s₁.setTop (mkF m 0 #[.val (.ref a_LESS)] [])) _
    refine XS.aloadN X0.here hx rfl (hb hby d2_0) rfl rfl ?_
    show Steps p.tables e below (s₁.setTop (mkF m 1 #[.val (.ref a_LESS)] [(.ref a_LESS)])) _
    refine st1 _ ?_
    show Steps p.tables e below (T1.setTop (mkF m 4 #[.val (.ref a_LESS)] [(.int 0)])) _
    exact retI X1 hx Bd.returns (hb hby d2_4) hr
  · show QP (some (.int 0)) h0 n0 _ T1.heap _
    rw [e1]
    exact ⟨rfl, N0, rfl⟩
theorem tw_13 {a0 : Array Value} {Z : State} (hw : ∀ d ∈ tables_1, d.before a0 Z = true) : (Jvm.Cond.initialized "java/lang/Enum").before a0 Z = true := hw _ (List.mem_of_getElem? (i := 13) rfl)
theorem pd_0 : parseMethodDescriptor "()I" = some ⟨[], some .int⟩ := by decide +kernel
theorem tw_12 {a0 : Array Value} {Z : State} (hw : ∀ d ∈ tables_1, d.before a0 Z = true) : (Jvm.Cond.selects "com/example/orderweft/orderweft/rules/Criterion$Comparison" ({ cls := "com/example/orderweft/orderweft/rules/Criterion$Comparison", name := "ordinal", desc := "()I" } : Jvm.MethodName) ({ cls := "java/lang/Enum", name := "ordinal", desc := "()I" } : Jvm.MethodName)).before a0 Z = true := hw _ (List.mem_of_getElem? (i := 12) rfl)
abbrev M_1 : MethodName := ⟨"com/example/orderweft/orderweft/rules/Criterion$Comparison", "ordinal", "()I"⟩
theorem tw_9 {a0 : Array Value} {Z : State} (hw : ∀ d ∈ tables_1, d.before a0 Z = true) : (Jvm.Cond.sameMethod "com/example/orderweft/orderweft/rules/Criterion$Comparison" "java/lang/Enum" "ordinal" "()I").before a0 Z = true := hw _ (List.mem_of_getElem? (i := 9) rfl)
theorem tw_10 {a0 : Array Value} {Z : State} (hw : ∀ d ∈ tables_1, d.before a0 Z = true) : (Jvm.Cond.declares ({ cls := "java/lang/Enum", name := "ordinal", desc := "()I" } : Jvm.MethodName)).before a0 Z = true := hw _ (List.mem_of_getElem? (i := 10) rfl)
theorem tw_11 {a0 : Array Value} {Z : State} (hw : ∀ d ∈ tables_1, d.before a0 Z = true) : (Jvm.Cond.instanceMethod ({ cls := "java/lang/Enum", name := "ordinal", desc := "()I" } : Jvm.MethodName)).before a0 Z = true := hw _ (List.mem_of_getElem? (i := 11) rfl)
theorem d1_4 : decode prog_61_method_4_code 4 = .ok (.tableswitch 36 0 4 #[46, 58, 70, 82, 94], 36) := by decide +kernel
theorem d1_50 : decode prog_61_method_4_code 50 = .ok (.iload_n 1, 1) := by decide +kernel
theorem d1_51 : decode prog_61_method_4_code 51 = .ok (.ifCond .ge 7, 3) := by decide +kernel
theorem d1_54 : decode prog_61_method_4_code 54 = .ok (.iconst 1, 1) := by decide +kernel
theorem d1_55 : decode prog_61_method_4_code 55 = .ok (.goto 52, 3) := by decide +kernel
theorem d1_107 : decode prog_61_method_4_code 107 = .ok (.ireturn, 1) := by decide +kernel
abbrev R_1_0_0_12 : Room := { frames := 1, cells := 0, slots := 0, locals := 12 }
abbrev M_2 : MethodName := ⟨"com/example/orderweft/orderweft/rules/Criterion$Comparison", "accepts", "(I)Z"⟩
theorem ef1_RI (m : MethodId) (x0 : Addr) (x1 : Int32) : entryFrame m #[(.ref x0), (.int x1)] 2 = mkF m 0 #[.val (.ref x0), .val (.int x1)] [] := by first | (simp [entryFrame, mkF, argsToLocals, Value.category]; done) | rfl
theorem pn_com_example_orderweft_orderweft_rules_Criterion_Comparison : plainName "com/example/orderweft/orderweft/rules/Criterion$Comparison" = true := by first | (simp [plainName, overriddenIn]; done) | decide +kernel
set_option maxRecDepth 65536 in
set_option maxHeartbeats 40000000 in
theorem rm1_20 (l : Launch) (Z : State) (a0 : Array Value) (hw : ∀ d ∈ tables_1, d.before a0 Z = true) (ws : List Jvm.Cond) (a_LESS : Addr) (p0 : Int32) (h0 : Heap) (n0 : Nat) (Z0 : n0 ≤ h0.size) (f1 : F_0 Z h0 a_LESS (.int 0)) (f2 : E_0 Z h0 a_LESS) (f3 : p0 < (0 : Int32)) :
    MetFree l M_2 (head1 (Jvm.Cond.code M_2 prog_61_method_4_code 2 (some .boolean) :: ws) R_1_0_0_12) (fun a U => a = #[(.ref a_LESS), (.int p0)] ∧ Z.Warmed39 U.vm ∧ U.heap = h0) (fun _ _ _ _ _ => True) (fun _ U o U' => ∃ v L, o = .returned v ∧ QP (some (.int 1)) h0 n0 v U'.heap L ∧ FrameEnd U o U' L R_1_0_0_12.cells R_1_0_0_12.slots) := by
  refine MetFree.of_bodySF (plainFor_of_name pn_com_example_orderweft_orderweft_rules_Criterion_Comparison) hisR ?_
  intro p e s m args below meth c s₁ Bd hml0 hP hK
  obtain ⟨rfl, hZ, hh⟩ := hP
  have hx := Bd.exec
  have hby := Bd.bytes
  have hml : c.maxLocals = 2 := hml0
  have hown : s.vm.findClass "com/example/orderweft/orderweft/rules/Criterion$Comparison" = some m.cls := findClass_of_methodNamed Bd.named
  have hnm := (name_of_methodNamed Bd.named Bd.method).1
  have X0 : Stand p l e R_1_0_0_12 s m #[(.ref a_LESS), (.int p0)] below meth c s₁ [] 0 0 := Stand.of_body Bd
  have e0 : s₁.heap = h0 := by rw [← hh, Bd.state]; rfl
  have N0 := Fr.nil n0
  -- pc 1: java/lang/Enum.ordinal
  obtain ⟨cq1, kq1, q1a, q1b, q1c⟩ := isOf hZ e0 f2
  obtain ⟨_, _, ⟨T1, L1, k1, n1⟩, -, X1, ⟨Lc1, hQ1, l1, y1, z1⟩, st1⟩ := X0.virtualBackUp hx (x := M_1) (y := M_0) (owner := "java/lang/Enum") hown (mvT hZ (tw_8 hw)) (mvT hZ (tw_9 hw)) (mvT hZ (tw_10 hw)) (by decide) (mvT hZ (tw_12 hw)) (mvT hZ (tw_11 hw)) (backOf (W := 0) (rm2_19 l Z a0 hw [] a_LESS h0 n0 Z0 f1) hZ (tw_14 hw) (tw_13 hw) (by decide) (by decide)) q1a q1c (g := (mkF m 1 #[.val (.ref a_LESS), .val (.int p0)] [(.ref a_LESS)])) rfl (by rw [hml]; rfl) (Steps.refl _) (argsL := []) (rest := []) (lenOf pd_0 rfl) rfl (by show 2 * 0 + _ ≤ _; exact Nat.le_of_eq rfl) (hb hby d1_1) (fun _ _ => ⟨rfl, e0, (by decide : 0 + 0 ≤ _), (by decide : 0 + 0 ≤ _)⟩)
  dsimp only [Pt.U, Pt.locs, Pt.cells, Pt.slots] at X1 l1 y1 z1 st1 hQ1
  subst l1 y1 z1
  obtain ⟨rfl, Nq1, e1⟩ := hQ1
  have N1 := Fr.app N0 Nq1
  obtain ⟨fs, hr, hrun, hended, hW, hsame⟩ := X1.leave (v := (some (.int 1))) (fun h => by rw [Bd.returns] at h; cases h)
  refine ⟨_, _, castTop (ef1_RI m a_LESS p0) ?_, hrun, hended, _, _, rfl, ?_, ⟨_, rfl⟩, hW, hsame.mono (by decide) (by decide)⟩
  · show Steps p.tables e below (s₁.setTop (mkF m 0 #[.val (.ref a_LESS), .val (.int p0)] [])) _
    refine XS.aloadN X0.here hx rfl (hb hby d1_0) rfl rfl ?_
    show Steps p.tables e below (s₁.setTop (mkF m 1 #[.val (.ref a_LESS), .val (.int p0)] [(.ref a_LESS)])) _
    refine st1.trans ?_
    show Steps p.tables e below (T1.setTop (mkF m 4 #[.val (.ref a_LESS), .val (.int p0)] [(.int 0)])) _
    refine XS.tswIn X1.here hx rfl (pc0 := 4) (pc' := 50) (o := 46) rfl (hb hby d1_4) rfl (by decide) (by decide) (by decide) (by decide) ?_
    refine XS.iloadN X1.here hx rfl (hb hby d1_50) rfl ?_
    refine XS.ifNo X1.here hx rfl (hb hby d1_51) rfl ((if0 _ _).trans (tlt (f3 : p0 < (0 : Int32))).2.1) ?_
    refine XS.iconst X1.here hx rfl (hb hby d1_54) ?_
    refine XS.goto X1.here hx rfl (pc0 := 55) (pc' := 107) rfl (hb hby d1_55) (by decide) (by decide) ?_
    show Steps p.tables e below (T1.setTop (mkF m 107 #[.val (.ref a_LESS), .val (.int p0)] [(.int 1)])) _
    exact retN X1 hx (t := .boolean) Bd.returns (by simp) (hb hby d1_107) hr
  · show QP (some (.int 1)) h0 n0 _ T1.heap _
    rw [e1]
    exact ⟨rfl, N1, rfl⟩
theorem pd_1 : parseMethodDescriptor "(I)Z" = some ⟨[.int], some .boolean⟩ := by decide +kernel
theorem tw_6 {a0 : Array Value} {Z : State} (hw : ∀ d ∈ tables_1, d.before a0 Z = true) : (Jvm.Cond.selects "com/example/orderweft/orderweft/rules/Criterion$Comparison" ({ cls := "com/example/orderweft/orderweft/rules/Criterion$Comparison", name := "accepts", desc := "(I)Z" } : Jvm.MethodName) ({ cls := "com/example/orderweft/orderweft/rules/Criterion$Comparison", name := "accepts", desc := "(I)Z" } : Jvm.MethodName)).before a0 Z = true := hw _ (List.mem_of_getElem? (i := 6) rfl)
theorem tw_4 {a0 : Array Value} {Z : State} (hw : ∀ d ∈ tables_1, d.before a0 Z = true) : (Jvm.Cond.declares ({ cls := "com/example/orderweft/orderweft/rules/Criterion$Comparison", name := "accepts", desc := "(I)Z" } : Jvm.MethodName)).before a0 Z = true := hw _ (List.mem_of_getElem? (i := 4) rfl)
theorem tw_5 {a0 : Array Value} {Z : State} (hw : ∀ d ∈ tables_1, d.before a0 Z = true) : (Jvm.Cond.instanceMethod ({ cls := "com/example/orderweft/orderweft/rules/Criterion$Comparison", name := "accepts", desc := "(I)Z" } : Jvm.MethodName)).before a0 Z = true := hw _ (List.mem_of_getElem? (i := 5) rfl)
theorem tw_17 {a0 : Array Value} {Z : State} (hw : ∀ d ∈ tables_1, d.before a0 Z = true) : (Jvm.Cond.fieldLink "com/example/orderweft/orderweft/rules/ComparisonAcceptsPinLaw" (17 : Nat) "com/example/orderweft/orderweft/rules/Criterion$Comparison" "AT_MOST" "Lcom/example/orderweft/orderweft/rules/Criterion$Comparison;").before a0 Z = true := hw _ (List.mem_of_getElem? (i := 17) rfl)
set_option maxRecDepth 65536 in
set_option maxHeartbeats 40000000 in
theorem rm2_21 (l : Launch) (Z : State) (a0 : Array Value) (hw : ∀ d ∈ tables_1, d.before a0 Z = true) (ws : List Jvm.Cond) (a_AT_MOST : Addr) (h0 : Heap) (n0 : Nat) (Z0 : n0 ≤ h0.size) (f1 : F_0 Z h0 a_AT_MOST (.int 1)) :
    MetFree l M_0 (head1 (Jvm.Cond.code M_0 jdk_37_method_2_code 1 (some .int) :: ws) R_0_0_0_0) (fun a U => a = #[(.ref a_AT_MOST)] ∧ Z.Warmed39 U.vm ∧ U.heap = h0) (fun _ _ _ _ _ => True) (fun _ U o U' => ∃ v L, o = .returned v ∧ QP (some (.int 1)) h0 n0 v U'.heap L ∧ FrameEnd U o U' L R_0_0_0_0.cells R_0_0_0_0.slots) := by
  refine MetFree.of_bodySF (plainFor_of_name pn_java_lang_Enum) hisR ?_
  intro p e s m args below meth c s₁ Bd hml0 hP hK
  obtain ⟨rfl, hZ, hh⟩ := hP
  have hx := Bd.exec
  have hby := Bd.bytes
  have hml : c.maxLocals = 1 := hml0
  have hown : s.vm.findClass "java/lang/Enum" = some m.cls := findClass_of_methodNamed Bd.named
  have hnm := (name_of_methodNamed Bd.named Bd.method).1
  have X0 : Stand p l e R_0_0_0_0 s m #[(.ref a_AT_MOST)] below meth c s₁ [] 0 0 := Stand.of_body Bd
  have e0 : s₁.heap = h0 := by rw [← hh, Bd.state]; rfl
  have N0 := Fr.nil n0
  obtain ⟨T1, X1, e1, st1⟩ := getF X0 hx hZ hown (host := "") (Or.inl (tw_15 hw)) Via.refl e0 f1 (g := (mkF m 1 #[.val (.ref a_AT_MOST)] [(.ref a_AT_MOST)])) rfl rfl (hb hby d2_1)
  obtain ⟨fs, hr, hrun, hended, hW, hsame⟩ := X1.leave (v := (some (.int 1))) (fun h => by rw [Bd.returns] at h; cases h)
  refine ⟨_, _, castTop (ef2_R m a_AT_MOST) ?_, hrun, hended, _, _, rfl, ?_, ⟨_, rfl⟩, hW, hsame.mono (by decide) (by decide)⟩
  · show Steps p.tables e below (s₁.setTop (mkF m 0 #[.val (.ref a_AT_MOST)] [])) _
    refine XS.aloadN X0.here hx rfl (hb hby d2_0) rfl rfl ?_
    show Steps p.tables e below (s₁.setTop (mkF m 1 #[.val (.ref a_AT_MOST)] [(.ref a_AT_MOST)])) _
    refine st1 _ ?_
    show Steps p.tables e below (T1.setTop (mkF m 4 #[.val (.ref a_AT_MOST)] [(.int 1)])) _
    exact retI X1 hx Bd.returns (hb hby d2_4) hr
  · show QP (some (.int 1)) h0 n0 _ T1.heap _
    rw [e1]
    exact ⟨rfl, N0, rfl⟩
theorem d1_62 : decode prog_61_method_4_code 62 = .ok (.iload_n 1, 1) := by decide +kernel
theorem d1_63 : decode prog_61_method_4_code 63 = .ok (.ifCond .gt 7, 3) := by decide +kernel
theorem d1_66 : decode prog_61_method_4_code 66 = .ok (.iconst 1, 1) := by decide +kernel
theorem d1_67 : decode prog_61_method_4_code 67 = .ok (.goto 40, 3) := by decide +kernel
set_option maxRecDepth 65536 in
set_option maxHeartbeats 40000000 in
theorem rm1_22 (l : Launch) (Z : State) (a0 : Array Value) (hw : ∀ d ∈ tables_1, d.before a0 Z = true) (ws : List Jvm.Cond) (a_AT_MOST : Addr) (p0 : Int32) (h0 : Heap) (n0 : Nat) (Z0 : n0 ≤ h0.size) (f1 : F_0 Z h0 a_AT_MOST (.int 1)) (f2 : E_0 Z h0 a_AT_MOST) (f3 : ¬ ((0 : Int32) < p0)) :
    MetFree l M_2 (head1 (Jvm.Cond.code M_2 prog_61_method_4_code 2 (some .boolean) :: ws) R_1_0_0_12) (fun a U => a = #[(.ref a_AT_MOST), (.int p0)] ∧ Z.Warmed39 U.vm ∧ U.heap = h0) (fun _ _ _ _ _ => True) (fun _ U o U' => ∃ v L, o = .returned v ∧ QP (some (.int 1)) h0 n0 v U'.heap L ∧ FrameEnd U o U' L R_1_0_0_12.cells R_1_0_0_12.slots) := by
  refine MetFree.of_bodySF (plainFor_of_name pn_com_example_orderweft_orderweft_rules_Criterion_Comparison) hisR ?_
  intro p e s m args below meth c s₁ Bd hml0 hP hK
  obtain ⟨rfl, hZ, hh⟩ := hP
  have hx := Bd.exec
  have hby := Bd.bytes
  have hml : c.maxLocals = 2 := hml0
  have hown : s.vm.findClass "com/example/orderweft/orderweft/rules/Criterion$Comparison" = some m.cls := findClass_of_methodNamed Bd.named
  have hnm := (name_of_methodNamed Bd.named Bd.method).1
  have X0 : Stand p l e R_1_0_0_12 s m #[(.ref a_AT_MOST), (.int p0)] below meth c s₁ [] 0 0 := Stand.of_body Bd
  have e0 : s₁.heap = h0 := by rw [← hh, Bd.state]; rfl
  have N0 := Fr.nil n0
  -- pc 1: java/lang/Enum.ordinal
  obtain ⟨cq1, kq1, q1a, q1b, q1c⟩ := isOf hZ e0 f2
  obtain ⟨_, _, ⟨T1, L1, k1, n1⟩, -, X1, ⟨Lc1, hQ1, l1, y1, z1⟩, st1⟩ := X0.virtualBackUp hx (x := M_1) (y := M_0) (owner := "java/lang/Enum") hown (mvT hZ (tw_8 hw)) (mvT hZ (tw_9 hw)) (mvT hZ (tw_10 hw)) (by decide) (mvT hZ (tw_12 hw)) (mvT hZ (tw_11 hw)) (backOf (W := 0) (rm2_21 l Z a0 hw [] a_AT_MOST h0 n0 Z0 f1) hZ (tw_14 hw) (tw_13 hw) (by decide) (by decide)) q1a q1c (g := (mkF m 1 #[.val (.ref a_AT_MOST), .val (.int p0)] [(.ref a_AT_MOST)])) rfl (by rw [hml]; rfl) (Steps.refl _) (argsL := []) (rest := []) (lenOf pd_0 rfl) rfl (by show 2 * 0 + _ ≤ _; exact Nat.le_of_eq rfl) (hb hby d1_1) (fun _ _ => ⟨rfl, e0, (by decide : 0 + 0 ≤ _), (by decide : 0 + 0 ≤ _)⟩)
  dsimp only [Pt.U, Pt.locs, Pt.cells, Pt.slots] at X1 l1 y1 z1 st1 hQ1
  subst l1 y1 z1
  obtain ⟨rfl, Nq1, e1⟩ := hQ1
  have N1 := Fr.app N0 Nq1
  obtain ⟨fs, hr, hrun, hended, hW, hsame⟩ := X1.leave (v := (some (.int 1))) (fun h => by rw [Bd.returns] at h; cases h)
  refine ⟨_, _, castTop (ef1_RI m a_AT_MOST p0) ?_, hrun, hended, _, _, rfl, ?_, ⟨_, rfl⟩, hW, hsame.mono (by decide) (by decide)⟩
  · show Steps p.tables e below (s₁.setTop (mkF m 0 #[.val (.ref a_AT_MOST), .val (.int p0)] [])) _
    refine XS.aloadN X0.here hx rfl (hb hby d1_0) rfl rfl ?_
    show Steps p.tables e below (s₁.setTop (mkF m 1 #[.val (.ref a_AT_MOST), .val (.int p0)] [(.ref a_AT_MOST)])) _
    refine st1.trans ?_
    show Steps p.tables e below (T1.setTop (mkF m 4 #[.val (.ref a_AT_MOST), .val (.int p0)] [(.int 1)])) _
    refine XS.tswIn X1.here hx rfl (pc0 := 4) (pc' := 62) (o := 58) rfl (hb hby d1_4) rfl (by decide) (by decide) (by decide) (by decide) ?_
    refine XS.iloadN X1.here hx rfl (hb hby d1_62) rfl ?_
    refine XS.ifNo X1.here hx rfl (hb hby d1_63) rfl ((if0 _ _).trans (flt (f3 : ¬ ((0 : Int32) < p0))).2.2.1) ?_
    refine XS.iconst X1.here hx rfl (hb hby d1_66) ?_
    refine XS.goto X1.here hx rfl (pc0 := 67) (pc' := 107) rfl (hb hby d1_67) (by decide) (by decide) ?_
    show Steps p.tables e below (T1.setTop (mkF m 107 #[.val (.ref a_AT_MOST), .val (.int p0)] [(.int 1)])) _
    exact retN X1 hx (t := .boolean) Bd.returns (by simp) (hb hby d1_107) hr
  · show QP (some (.int 1)) h0 n0 _ T1.heap _
    rw [e1]
    exact ⟨rfl, N1, rfl⟩
theorem tw_19 {a0 : Array Value} {Z : State} (hw : ∀ d ∈ tables_1, d.before a0 Z = true) : (Jvm.Cond.fieldLink "com/example/orderweft/orderweft/rules/ComparisonAcceptsPinLaw" (20 : Nat) "com/example/orderweft/orderweft/rules/Criterion$Comparison" "EQUAL" "Lcom/example/orderweft/orderweft/rules/Criterion$Comparison;").before a0 Z = true := hw _ (List.mem_of_getElem? (i := 19) rfl)
set_option maxRecDepth 65536 in
set_option maxHeartbeats 40000000 in
theorem rm2_23 (l : Launch) (Z : State) (a0 : Array Value) (hw : ∀ d ∈ tables_1, d.before a0 Z = true) (ws : List Jvm.Cond) (a_EQUAL : Addr) (h0 : Heap) (n0 : Nat) (Z0 : n0 ≤ h0.size) (f1 : F_0 Z h0 a_EQUAL (.int 2)) :
    MetFree l M_0 (head1 (Jvm.Cond.code M_0 jdk_37_method_2_code 1 (some .int) :: ws) R_0_0_0_0) (fun a U => a = #[(.ref a_EQUAL)] ∧ Z.Warmed39 U.vm ∧ U.heap = h0) (fun _ _ _ _ _ => True) (fun _ U o U' => ∃ v L, o = .returned v ∧ QP (some (.int 2)) h0 n0 v U'.heap L ∧ FrameEnd U o U' L R_0_0_0_0.cells R_0_0_0_0.slots) := by
  refine MetFree.of_bodySF (plainFor_of_name pn_java_lang_Enum) hisR ?_
  intro p e s m args below meth c s₁ Bd hml0 hP hK
  obtain ⟨rfl, hZ, hh⟩ := hP
  have hx := Bd.exec
  have hby := Bd.bytes
  have hml : c.maxLocals = 1 := hml0
  have hown : s.vm.findClass "java/lang/Enum" = some m.cls := findClass_of_methodNamed Bd.named
  have hnm := (name_of_methodNamed Bd.named Bd.method).1
  have X0 : Stand p l e R_0_0_0_0 s m #[(.ref a_EQUAL)] below meth c s₁ [] 0 0 := Stand.of_body Bd
  have e0 : s₁.heap = h0 := by rw [← hh, Bd.state]; rfl
  have N0 := Fr.nil n0
  obtain ⟨T1, X1, e1, st1⟩ := getF X0 hx hZ hown (host := "") (Or.inl (tw_15 hw)) Via.refl e0 f1 (g := (mkF m 1 #[.val (.ref a_EQUAL)] [(.ref a_EQUAL)])) rfl rfl (hb hby d2_1)
  obtain ⟨fs, hr, hrun, hended, hW, hsame⟩ := X1.leave (v := (some (.int 2))) (fun h => by rw [Bd.returns] at h; cases h)
  refine ⟨_, _, castTop (ef2_R m a_EQUAL) ?_, hrun, hended, _, _, rfl, ?_, ⟨_, rfl⟩, hW, hsame.mono (by decide) (by decide)⟩
  · show Steps p.tables e below (s₁.setTop (mkF m 0 #[.val (.ref a_EQUAL)] [])) _
    refine XS.aloadN X0.here hx rfl (hb hby d2_0) rfl rfl ?_
    show Steps p.tables e below (s₁.setTop (mkF m 1 #[.val (.ref a_EQUAL)] [(.ref a_EQUAL)])) _
    refine st1 _ ?_
    show Steps p.tables e below (T1.setTop (mkF m 4 #[.val (.ref a_EQUAL)] [(.int 2)])) _
    exact retI X1 hx Bd.returns (hb hby d2_4) hr
  · show QP (some (.int 2)) h0 n0 _ T1.heap _
    rw [e1]
    exact ⟨rfl, N0, rfl⟩
theorem d1_74 : decode prog_61_method_4_code 74 = .ok (.iload_n 1, 1) := by decide +kernel
theorem d1_75 : decode prog_61_method_4_code 75 = .ok (.ifCond .ne 7, 3) := by decide +kernel
theorem d1_82 : decode prog_61_method_4_code 82 = .ok (.iconst 0, 1) := by decide +kernel
theorem d1_83 : decode prog_61_method_4_code 83 = .ok (.goto 24, 3) := by decide +kernel
set_option maxRecDepth 65536 in
set_option maxHeartbeats 40000000 in
theorem rm1_24 (l : Launch) (Z : State) (a0 : Array Value) (hw : ∀ d ∈ tables_1, d.before a0 Z = true) (ws : List Jvm.Cond) (a_EQUAL : Addr) (p0 : Int32) (h0 : Heap) (n0 : Nat) (Z0 : n0 ≤ h0.size) (f1 : F_0 Z h0 a_EQUAL (.int 2)) (f2 : E_0 Z h0 a_EQUAL) (f3 : ¬ (p0 = (0 : Int32))) :
    MetFree l M_2 (head1 (Jvm.Cond.code M_2 prog_61_method_4_code 2 (some .boolean) :: ws) R_1_0_0_12) (fun a U => a = #[(.ref a_EQUAL), (.int p0)] ∧ Z.Warmed39 U.vm ∧ U.heap = h0) (fun _ _ _ _ _ => True) (fun _ U o U' => ∃ v L, o = .returned v ∧ QP (some (.int 0)) h0 n0 v U'.heap L ∧ FrameEnd U o U' L R_1_0_0_12.cells R_1_0_0_12.slots) := by
  refine MetFree.of_bodySF (plainFor_of_name pn_com_example_orderweft_orderweft_rules_Criterion_Comparison) hisR ?_
  intro p e s m args below meth c s₁ Bd hml0 hP hK
  obtain ⟨rfl, hZ, hh⟩ := hP
  have hx := Bd.exec
  have hby := Bd.bytes
  have hml : c.maxLocals = 2 := hml0
  have hown : s.vm.findClass "com/example/orderweft/orderweft/rules/Criterion$Comparison" = some m.cls := findClass_of_methodNamed Bd.named
  have hnm := (name_of_methodNamed Bd.named Bd.method).1
  have X0 : Stand p l e R_1_0_0_12 s m #[(.ref a_EQUAL), (.int p0)] below meth c s₁ [] 0 0 := Stand.of_body Bd
  have e0 : s₁.heap = h0 := by rw [← hh, Bd.state]; rfl
  have N0 := Fr.nil n0
  -- pc 1: java/lang/Enum.ordinal
  obtain ⟨cq1, kq1, q1a, q1b, q1c⟩ := isOf hZ e0 f2
  obtain ⟨_, _, ⟨T1, L1, k1, n1⟩, -, X1, ⟨Lc1, hQ1, l1, y1, z1⟩, st1⟩ := X0.virtualBackUp hx (x := M_1) (y := M_0) (owner := "java/lang/Enum") hown (mvT hZ (tw_8 hw)) (mvT hZ (tw_9 hw)) (mvT hZ (tw_10 hw)) (by decide) (mvT hZ (tw_12 hw)) (mvT hZ (tw_11 hw)) (backOf (W := 0) (rm2_23 l Z a0 hw [] a_EQUAL h0 n0 Z0 f1) hZ (tw_14 hw) (tw_13 hw) (by decide) (by decide)) q1a q1c (g := (mkF m 1 #[.val (.ref a_EQUAL), .val (.int p0)] [(.ref a_EQUAL)])) rfl (by rw [hml]; rfl) (Steps.refl _) (argsL := []) (rest := []) (lenOf pd_0 rfl) rfl (by show 2 * 0 + _ ≤ _; exact Nat.le_of_eq rfl) (hb hby d1_1) (fun _ _ => ⟨rfl, e0, (by decide : 0 + 0 ≤ _), (by decide : 0 + 0 ≤ _)⟩)
  dsimp only [Pt.U, Pt.locs, Pt.cells, Pt.slots] at X1 l1 y1 z1 st1 hQ1
  subst l1 y1 z1
  obtain ⟨rfl, Nq1, e1⟩ := hQ1
  have N1 := Fr.app N0 Nq1
  obtain ⟨fs, hr, hrun, hended, hW, hsame⟩ := X1.leave (v := (some (.int 0))) (fun h => by rw [Bd.returns] at h; cases h)
  refine ⟨_, _, castTop (ef1_RI m a_EQUAL p0) ?_, hrun, hended, _, _, rfl, ?_, ⟨_, rfl⟩, hW, hsame.mono (by decide) (by decide)⟩
  · show Steps p.tables e below (s₁.setTop (mkF m 0 #[.val (.ref a_EQUAL), .val (.int p0)] [])) _
    refine XS.aloadN X0.here hx rfl (hb hby d1_0) rfl rfl ?_
    show Steps p.tables e below (s₁.setTop (mkF m 1 #[.val (.ref a_EQUAL), .val (.int p0)] [(.ref a_EQUAL)])) _
    refine st1.trans ?_
    show Steps p.tables e below (T1.setTop (mkF m 4 #[.val (.ref a_EQUAL), .val (.int p0)] [(.int 2)])) _
    refine XS.tswIn X1.here hx rfl (pc0 := 4) (pc' := 74) (o := 70) rfl (hb hby d1_4) rfl (by decide) (by decide) (by decide) (by decide) ?_
    refine XS.iloadN X1.here hx rfl (hb hby d1_74) rfl ?_
    refine XS.ifYes X1.here hx rfl (pc0 := 75) (pc' := 82) rfl (hb hby d1_75) rfl ((if0 _ _).trans (feq (f3 : ¬ (p0 = (0 : Int32)))).2) (by decide) (by decide) ?_
    refine XS.iconst X1.here hx rfl (hb hby d1_82) ?_
    refine XS.goto X1.here hx rfl (pc0 := 83) (pc' := 107) rfl (hb hby d1_83) (by decide) (by decide) ?_
    show Steps p.tables e below (T1.setTop (mkF m 107 #[.val (.ref a_EQUAL), .val (.int p0)] [(.int 0)])) _
    exact retN X1 hx (t := .boolean) Bd.returns (by simp) (hb hby d1_107) hr
  · show QP (some (.int 0)) h0 n0 _ T1.heap _
    rw [e1]
    exact ⟨rfl, N1, rfl⟩
theorem tw_21 {a0 : Array Value} {Z : State} (hw : ∀ d ∈ tables_1, d.before a0 Z = true) : (Jvm.Cond.fieldLink "com/example/orderweft/orderweft/rules/ComparisonAcceptsPinLaw" (23 : Nat) "com/example/orderweft/orderweft/rules/Criterion$Comparison" "AT_LEAST" "Lcom/example/orderweft/orderweft/rules/Criterion$Comparison;").before a0 Z = true := hw _ (List.mem_of_getElem? (i := 21) rfl)
set_option maxRecDepth 65536 in
set_option maxHeartbeats 40000000 in
theorem rm2_25 (l : Launch) (Z : State) (a0 : Array Value) (hw : ∀ d ∈ tables_1, d.before a0 Z = true) (ws : List Jvm.Cond) (a_AT_LEAST : Addr) (h0 : Heap) (n0 : Nat) (Z0 : n0 ≤ h0.size) (f1 : F_0 Z h0 a_AT_LEAST (.int 3)) :
    MetFree l M_0 (head1 (Jvm.Cond.code M_0 jdk_37_method_2_code 1 (some .int) :: ws) R_0_0_0_0) (fun a U => a = #[(.ref a_AT_LEAST)] ∧ Z.Warmed39 U.vm ∧ U.heap = h0) (fun _ _ _ _ _ => True) (fun _ U o U' => ∃ v L, o = .returned v ∧ QP (some (.int 3)) h0 n0 v U'.heap L ∧ FrameEnd U o U' L R_0_0_0_0.cells R_0_0_0_0.slots) := by
  refine MetFree.of_bodySF (plainFor_of_name pn_java_lang_Enum) hisR ?_
  intro p e s m args below meth c s₁ Bd hml0 hP hK
  obtain ⟨rfl, hZ, hh⟩ := hP
  have hx := Bd.exec
  have hby := Bd.bytes
  have hml : c.maxLocals = 1 := hml0
  have hown : s.vm.findClass "java/lang/Enum" = some m.cls := findClass_of_methodNamed Bd.named
  have hnm := (name_of_methodNamed Bd.named Bd.method).1
  have X0 : Stand p l e R_0_0_0_0 s m #[(.ref a_AT_LEAST)] below meth c s₁ [] 0 0 := Stand.of_body Bd
  have e0 : s₁.heap = h0 := by rw [← hh, Bd.state]; rfl
  have N0 := Fr.nil n0
  obtain ⟨T1, X1, e1, st1⟩ := getF X0 hx hZ hown (host := "") (Or.inl (tw_15 hw)) Via.refl e0 f1 (g := (mkF m 1 #[.val (.ref a_AT_LEAST)] [(.ref a_AT_LEAST)])) rfl rfl (hb hby d2_1)
  obtain ⟨fs, hr, hrun, hended, hW, hsame⟩ := X1.leave (v := (some (.int 3))) (fun h => by rw [Bd.returns] at h; cases h)
  refine ⟨_, _, castTop (ef2_R m a_AT_LEAST) ?_, hrun, hended, _, _, rfl, ?_, ⟨_, rfl⟩, hW, hsame.mono (by decide) (by decide)⟩
  · show Steps p.tables e below (s₁.setTop (mkF m 0 #[.val (.ref a_AT_LEAST)] [])) _
    refine XS.aloadN X0.here hx rfl (hb hby d2_0) rfl rfl ?_
    show Steps p.tables e below (s₁.setTop (mkF m 1 #[.val (.ref a_AT_LEAST)] [(.ref a_AT_LEAST)])) _
    refine st1 _ ?_
    show Steps p.tables e below (T1.setTop (mkF m 4 #[.val (.ref a_AT_LEAST)] [(.int 3)])) _
    exact retI X1 hx Bd.returns (hb hby d2_4) hr
  · show QP (some (.int 3)) h0 n0 _ T1.heap _
    rw [e1]
    exact ⟨rfl, N0, rfl⟩
theorem d1_86 : decode prog_61_method_4_code 86 = .ok (.iload_n 1, 1) := by decide +kernel
theorem d1_87 : decode prog_61_method_4_code 87 = .ok (.ifCond .lt 7, 3) := by decide +kernel
theorem d1_94 : decode prog_61_method_4_code 94 = .ok (.iconst 0, 1) := by decide +kernel
theorem d1_95 : decode prog_61_method_4_code 95 = .ok (.goto 12, 3) := by decide +kernel
set_option maxRecDepth 65536 in
set_option maxHeartbeats 40000000 in
theorem rm1_26 (l : Launch) (Z : State) (a0 : Array Value) (hw : ∀ d ∈ tables_1, d.before a0 Z = true) (ws : List Jvm.Cond) (a_AT_LEAST : Addr) (p0 : Int32) (h0 : Heap) (n0 : Nat) (Z0 : n0 ≤ h0.size) (f1 : F_0 Z h0 a_AT_LEAST (.int 3)) (f2 : E_0 Z h0 a_AT_LEAST) (f3 : p0 < (0 : Int32)) :
    MetFree l M_2 (head1 (Jvm.Cond.code M_2 prog_61_method_4_code 2 (some .boolean) :: ws) R_1_0_0_12) (fun a U => a = #[(.ref a_AT_LEAST), (.int p0)] ∧ Z.Warmed39 U.vm ∧ U.heap = h0) (fun _ _ _ _ _ => True) (fun _ U o U' => ∃ v L, o = .returned v ∧ QP (some (.int 0)) h0 n0 v U'.heap L ∧ FrameEnd U o U' L R_1_0_0_12.cells R_1_0_0_12.slots) := by
  refine MetFree.of_bodySF (plainFor_of_name pn_com_example_orderweft_orderweft_rules_Criterion_Comparison) hisR ?_
  intro p e s m args below meth c s₁ Bd hml0 hP hK
  obtain ⟨rfl, hZ, hh⟩ := hP
  have hx := Bd.exec
  have hby := Bd.bytes
  have hml : c.maxLocals = 2 := hml0
  have hown : s.vm.findClass "com/example/orderweft/orderweft/rules/Criterion$Comparison" = some m.cls := findClass_of_methodNamed Bd.named
  have hnm := (name_of_methodNamed Bd.named Bd.method).1
  have X0 : Stand p l e R_1_0_0_12 s m #[(.ref a_AT_LEAST), (.int p0)] below meth c s₁ [] 0 0 := Stand.of_body Bd
  have e0 : s₁.heap = h0 := by rw [← hh, Bd.state]; rfl
  have N0 := Fr.nil n0
  -- pc 1: java/lang/Enum.ordinal
  obtain ⟨cq1, kq1, q1a, q1b, q1c⟩ := isOf hZ e0 f2
  obtain ⟨_, _, ⟨T1, L1, k1, n1⟩, -, X1, ⟨Lc1, hQ1, l1, y1, z1⟩, st1⟩ := X0.virtualBackUp hx (x := M_1) (y := M_0) (owner := "java/lang/Enum") hown (mvT hZ (tw_8 hw)) (mvT hZ (tw_9 hw)) (mvT hZ (tw_10 hw)) (by decide) (mvT hZ (tw_12 hw)) (mvT hZ (tw_11 hw)) (backOf (W := 0) (rm2_25 l Z a0 hw [] a_AT_LEAST h0 n0 Z0 f1) hZ (tw_14 hw) (tw_13 hw) (by decide) (by decide)) q1a q1c (g := (mkF m 1 #[.val (.ref a_AT_LEAST), .val (.int p0)] [(.ref a_AT_LEAST)])) rfl (by rw [hml]; rfl) (Steps.refl _) (argsL := []) (rest := []) (lenOf pd_0 rfl) rfl (by show 2 * 0 + _ ≤ _; exact Nat.le_of_eq rfl) (hb hby d1_1) (fun _ _ => ⟨rfl, e0, (by decide : 0 + 0 ≤ _), (by decide : 0 + 0 ≤ _)⟩)
  dsimp only [Pt.U, Pt.locs, Pt.cells, Pt.slots] at X1 l1 y1 z1 st1 hQ1
  subst l1 y1 z1
  obtain ⟨rfl, Nq1, e1⟩ := hQ1
  have N1 := Fr.app N0 Nq1
  obtain ⟨fs, hr, hrun, hended, hW, hsame⟩ := X1.leave (v := (some (.int 0))) (fun h => by rw [Bd.returns] at h; cases h)
  refine ⟨_, _, castTop (ef1_RI m a_AT_LEAST p0) ?_, hrun, hended, _, _, rfl, ?_, ⟨_, rfl⟩, hW, hsame.mono (by decide) (by decide)⟩
  · show Steps p.tables e below (s₁.setTop (mkF m 0 #[.val (.ref a_AT_LEAST), .val (.int p0)] [])) _
    refine XS.aloadN X0.here hx rfl (hb hby d1_0) rfl rfl ?_
    show Steps p.tables e below (s₁.setTop (mkF m 1 #[.val (.ref a_AT_LEAST), .val (.int p0)] [(.ref a_AT_LEAST)])) _
    refine st1.trans ?_
    show Steps p.tables e below (T1.setTop (mkF m 4 #[.val (.ref a_AT_LEAST), .val (.int p0)] [(.int 3)])) _
    refine XS.tswIn X1.here hx rfl (pc0 := 4) (pc' := 86) (o := 82) rfl (hb hby d1_4) rfl (by decide) (by decide) (by decide) (by decide) ?_
    refine XS.iloadN X1.here hx rfl (hb hby d1_86) rfl ?_
    refine XS.ifYes X1.here hx rfl (pc0 := 87) (pc' := 94) rfl (hb hby d1_87) rfl ((if0 _ _).trans (tlt (f3 : p0 < (0 : Int32))).1) (by decide) (by decide) ?_
    refine XS.iconst X1.here hx rfl (hb hby d1_94) ?_
    refine XS.goto X1.here hx rfl (pc0 := 95) (pc' := 107) rfl (hb hby d1_95) (by decide) (by decide) ?_
    show Steps p.tables e below (T1.setTop (mkF m 107 #[.val (.ref a_AT_LEAST), .val (.int p0)] [(.int 0)])) _
    exact retN X1 hx (t := .boolean) Bd.returns (by simp) (hb hby d1_107) hr
  · show QP (some (.int 0)) h0 n0 _ T1.heap _
    rw [e1]
    exact ⟨rfl, N1, rfl⟩
theorem tw_23 {a0 : Array Value} {Z : State} (hw : ∀ d ∈ tables_1, d.before a0 Z = true) : (Jvm.Cond.fieldLink "com/example/orderweft/orderweft/rules/ComparisonAcceptsPinLaw" (26 : Nat) "com/example/orderweft/orderweft/rules/Criterion$Comparison" "GREATER" "Lcom/example/orderweft/orderweft/rules/Criterion$Comparison;").before a0 Z = true := hw _ (List.mem_of_getElem? (i := 23) rfl)
set_option maxRecDepth 65536 in
set_option maxHeartbeats 40000000 in
theorem rm2_27 (l : Launch) (Z : State) (a0 : Array Value) (hw : ∀ d ∈ tables_1, d.before a0 Z = true) (ws : List Jvm.Cond) (a_GREATER : Addr) (h0 : Heap) (n0 : Nat) (Z0 : n0 ≤ h0.size) (f1 : F_0 Z h0 a_GREATER (.int 4)) :
    MetFree l M_0 (head1 (Jvm.Cond.code M_0 jdk_37_method_2_code 1 (some .int) :: ws) R_0_0_0_0) (fun a U => a = #[(.ref a_GREATER)] ∧ Z.Warmed39 U.vm ∧ U.heap = h0) (fun _ _ _ _ _ => True) (fun _ U o U' => ∃ v L, o = .returned v ∧ QP (some (.int 4)) h0 n0 v U'.heap L ∧ FrameEnd U o U' L R_0_0_0_0.cells R_0_0_0_0.slots) := by
  refine MetFree.of_bodySF (plainFor_of_name pn_java_lang_Enum) hisR ?_
  intro p e s m args below meth c s₁ Bd hml0 hP hK
  obtain ⟨rfl, hZ, hh⟩ := hP
  have hx := Bd.exec
  have hby := Bd.bytes
  have hml : c.maxLocals = 1 := hml0
  have hown : s.vm.findClass "java/lang/Enum" = some m.cls := findClass_of_methodNamed Bd.named
  have hnm := (name_of_methodNamed Bd.named Bd.method).1
  have X0 : Stand p l e R_0_0_0_0 s m #[(.ref a_GREATER)] below meth c s₁ [] 0 0 := Stand.of_body Bd
  have e0 : s₁.heap = h0 := by rw [← hh, Bd.state]; rfl
  have N0 := Fr.nil n0
  obtain ⟨T1, X1, e1, st1⟩ := getF X0 hx hZ hown (host := "") (Or.inl (tw_15 hw)) Via.refl e0 f1 (g := (mkF m 1 #[.val (.ref a_GREATER)] [(.ref a_GREATER)])) rfl rfl (hb hby d2_1)
  obtain ⟨fs, hr, hrun, hended, hW, hsame⟩ := X1.leave (v := (some (.int 4))) (fun h => by rw [Bd.returns] at h; cases h)
  refine ⟨_, _, castTop (ef2_R m a_GREATER) ?_, hrun, hended, _, _, rfl, ?_, ⟨_, rfl⟩, hW, hsame.mono (by decide) (by decide)⟩
  · show Steps p.tables e below (s₁.setTop (mkF m 0 #[.val (.ref a_GREATER)] [])) _
    refine XS.aloadN X0.here hx rfl (hb hby d2_0) rfl rfl ?_
    show Steps p.tables e below (s₁.setTop (mkF m 1 #[.val (.ref a_GREATER)] [(.ref a_GREATER)])) _
    refine st1 _ ?_
    show Steps p.tables e below (T1.setTop (mkF m 4 #[.val (.ref a_GREATER)] [(.int 4)])) _
    exact retI X1 hx Bd.returns (hb hby d2_4) hr
  · show QP (some (.int 4)) h0 n0 _ T1.heap _
    rw [e1]
    exact ⟨rfl, N0, rfl⟩
theorem d1_98 : decode prog_61_method_4_code 98 = .ok (.iload_n 1, 1) := by decide +kernel
theorem d1_99 : decode prog_61_method_4_code 99 = .ok (.ifCond .le 7, 3) := by decide +kernel
theorem d1_106 : decode prog_61_method_4_code 106 = .ok (.iconst 0, 1) := by decide +kernel
set_option maxRecDepth 65536 in
set_option maxHeartbeats 40000000 in
theorem rm1_28 (l : Launch) (Z : State) (a0 : Array Value) (hw : ∀ d ∈ tables_1, d.before a0 Z = true) (ws : List Jvm.Cond) (a_GREATER : Addr) (p0 : Int32) (h0 : Heap) (n0 : Nat) (Z0 : n0 ≤ h0.size) (f1 : F_0 Z h0 a_GREATER (.int 4)) (f2 : E_0 Z h0 a_GREATER) (f3 : ¬ ((0 : Int32) < p0)) :
    MetFree l M_2 (head1 (Jvm.Cond.code M_2 prog_61_method_4_code 2 (some .boolean) :: ws) R_1_0_0_12) (fun a U => a = #[(.ref a_GREATER), (.int p0)] ∧ Z.Warmed39 U.vm ∧ U.heap = h0) (fun _ _ _ _ _ => True) (fun _ U o U' => ∃ v L, o = .returned v ∧ QP (some (.int 0)) h0 n0 v U'.heap L ∧ FrameEnd U o U' L R_1_0_0_12.cells R_1_0_0_12.slots) := by
  refine MetFree.of_bodySF (plainFor_of_name pn_com_example_orderweft_orderweft_rules_Criterion_Comparison) hisR ?_
  intro p e s m args below meth c s₁ Bd hml0 hP hK
  obtain ⟨rfl, hZ, hh⟩ := hP
  have hx := Bd.exec
  have hby := Bd.bytes
  have hml : c.maxLocals = 2 := hml0
  have hown : s.vm.findClass "com/example/orderweft/orderweft/rules/Criterion$Comparison" = some m.cls := findClass_of_methodNamed Bd.named
  have hnm := (name_of_methodNamed Bd.named Bd.method).1
  have X0 : Stand p l e R_1_0_0_12 s m #[(.ref a_GREATER), (.int p0)] below meth c s₁ [] 0 0 := Stand.of_body Bd
  have e0 : s₁.heap = h0 := by rw [← hh, Bd.state]; rfl
  have N0 := Fr.nil n0
  -- pc 1: java/lang/Enum.ordinal
  obtain ⟨cq1, kq1, q1a, q1b, q1c⟩ := isOf hZ e0 f2
  obtain ⟨_, _, ⟨T1, L1, k1, n1⟩, -, X1, ⟨Lc1, hQ1, l1, y1, z1⟩, st1⟩ := X0.virtualBackUp hx (x := M_1) (y := M_0) (owner := "java/lang/Enum") hown (mvT hZ (tw_8 hw)) (mvT hZ (tw_9 hw)) (mvT hZ (tw_10 hw)) (by decide) (mvT hZ (tw_12 hw)) (mvT hZ (tw_11 hw)) (backOf (W := 0) (rm2_27 l Z a0 hw [] a_GREATER h0 n0 Z0 f1) hZ (tw_14 hw) (tw_13 hw) (by decide) (by decide)) q1a q1c (g := (mkF m 1 #[.val (.ref a_GREATER), .val (.int p0)] [(.ref a_GREATER)])) rfl (by rw [hml]; rfl) (Steps.refl _) (argsL := []) (rest := []) (lenOf pd_0 rfl) rfl (by show 2 * 0 + _ ≤ _; exact Nat.le_of_eq rfl) (hb hby d1_1) (fun _ _ => ⟨rfl, e0, (by decide : 0 + 0 ≤ _), (by decide : 0 + 0 ≤ _)⟩)
  dsimp only [Pt.U, Pt.locs, Pt.cells, Pt.slots] at X1 l1 y1 z1 st1 hQ1
  subst l1 y1 z1
  obtain ⟨rfl, Nq1, e1⟩ := hQ1
  have N1 := Fr.app N0 Nq1
  obtain ⟨fs, hr, hrun, hended, hW, hsame⟩ := X1.leave (v := (some (.int 0))) (fun h => by rw [Bd.returns] at h; cases h)
  refine ⟨_, _, castTop (ef1_RI m a_GREATER p0) ?_, hrun, hended, _, _, rfl, ?_, ⟨_, rfl⟩, hW, hsame.mono (by decide) (by decide)⟩
  · show Steps p.tables e below (s₁.setTop (mkF m 0 #[.val (.ref a_GREATER), .val (.int p0)] [])) _
    refine XS.aloadN X0.here hx rfl (hb hby d1_0) rfl rfl ?_
    show Steps p.tables e below (s₁.setTop (mkF m 1 #[.val (.ref a_GREATER), .val (.int p0)] [(.ref a_GREATER)])) _
    refine st1.trans ?_
    show Steps p.tables e below (T1.setTop (mkF m 4 #[.val (.ref a_GREATER), .val (.int p0)] [(.int 4)])) _
    refine XS.tswIn X1.here hx rfl (pc0 := 4) (pc' := 98) (o := 94) rfl (hb hby d1_4) rfl (by decide) (by decide) (by decide) (by decide) ?_
    refine XS.iloadN X1.here hx rfl (hb hby d1_98) rfl ?_
    refine XS.ifYes X1.here hx rfl (pc0 := 99) (pc' := 106) rfl (hb hby d1_99) rfl ((if0 _ _).trans (flt (f3 : ¬ ((0 : Int32) < p0))).2.2.2) (by decide) (by decide) ?_
    refine XS.iconst X1.here hx rfl (hb hby d1_106) ?_
    show Steps p.tables e below (T1.setTop (mkF m 107 #[.val (.ref a_GREATER), .val (.int p0)] [(.int 0)])) _
    exact retN X1 hx (t := .boolean) Bd.returns (by simp) (hb hby d1_107) hr
  · show QP (some (.int 0)) h0 n0 _ T1.heap _
    rw [e1]
    exact ⟨rfl, N1, rfl⟩
theorem tw_25 {a0 : Array Value} {Z : State} (hw : ∀ d ∈ tables_1, d.before a0 Z = true) : (Jvm.Cond.methodLink "com/example/orderweft/orderweft/rules/ComparisonAcceptsPinLaw" (29 : Nat) ({ cls := "com/example/orderweft/orderweft/rules/ComparisonAcceptsPinLaw", name := "one", desc := "(Z)I" } : Jvm.MethodName)).before a0 Z = true := hw _ (List.mem_of_getElem? (i := 25) rfl)
theorem tw_28 {a0 : Array Value} {Z : State} (hw : ∀ d ∈ tables_1, d.before a0 Z = true) : (Jvm.Cond.code ({ cls := "com/example/orderweft/orderweft/rules/ComparisonAcceptsPinLaw", name := "one", desc := "(Z)I" } : Jvm.MethodName) method_2_code (1 : Nat) (Option.some Jvm.ClassFile.FieldType.int)).before a0 Z = true := hw _ (List.mem_of_getElem? (i := 28) rfl)
theorem d3_0 : decode method_2_code 0 = .ok (.iload_n 0, 1) := by decide +kernel
theorem d3_1 : decode method_2_code 1 = .ok (.ifCond .eq 7, 3) := by decide +kernel
theorem d3_4 : decode method_2_code 4 = .ok (.iconst 1, 1) := by decide +kernel
theorem d3_5 : decode method_2_code 5 = .ok (.goto 4, 3) := by decide +kernel
theorem d3_9 : decode method_2_code 9 = .ok (.ireturn, 1) := by decide +kernel
abbrev M_3 : MethodName := ⟨"com/example/orderweft/orderweft/rules/ComparisonAcceptsPinLaw", "one", "(Z)I"⟩
theorem ef3_I (m : MethodId) (x0 : Int32) : entryFrame m #[(.int x0)] 1 = mkF m 0 #[.val (.int x0)] [] := by first | (simp [entryFrame, mkF, argsToLocals, Value.category]; done) | rfl
theorem pn_com_example_orderweft_orderweft_rules_ComparisonAcceptsPinLaw : plainName "com/example/orderweft/orderweft/rules/ComparisonAcceptsPinLaw" = true := by first | (simp [plainName, overriddenIn]; done) | decide +kernel
set_option maxRecDepth 65536 in
set_option maxHeartbeats 40000000 in
theorem rm3_29 (l : Launch) (Z : State) (a0 : Array Value) (hw : ∀ d ∈ tables_1, d.before a0 Z = true) (ws : List Jvm.Cond)  (h0 : Heap) (n0 : Nat) (Z0 : n0 ≤ h0.size) :
    MetFree l M_3 (head1 (Jvm.Cond.code M_3 method_2_code 1 (some .int) :: ws) R_0_0_0_0) (fun a U => a = #[(.int 1)] ∧ Z.Warmed39 U.vm ∧ U.heap = h0) (fun _ _ _ _ _ => True) (fun _ U o U' => ∃ v L, o = .returned v ∧ QP (some (.int 1)) h0 n0 v U'.heap L ∧ FrameEnd U o U' L R_0_0_0_0.cells R_0_0_0_0.slots) := by
  refine MetFree.of_bodySF (plainFor_of_name pn_com_example_orderweft_orderweft_rules_ComparisonAcceptsPinLaw) hisR ?_
  intro p e s m args below meth c s₁ Bd hml0 hP hK
  obtain ⟨rfl, hZ, hh⟩ := hP
  have hx := Bd.exec
  have hby := Bd.bytes
  have hml : c.maxLocals = 1 := hml0
  have hown : s.vm.findClass "com/example/orderweft/orderweft/rules/ComparisonAcceptsPinLaw" = some m.cls := findClass_of_methodNamed Bd.named
  have hnm := (name_of_methodNamed Bd.named Bd.method).1
  have X0 : Stand p l e R_0_0_0_0 s m #[(.int 1)] below meth c s₁ [] 0 0 := Stand.of_body Bd
  have e0 : s₁.heap = h0 := by rw [← hh, Bd.state]; rfl
  have N0 := Fr.nil n0
  obtain ⟨fs, hr, hrun, hended, hW, hsame⟩ := X0.leave (v := (some (.int 1))) (fun h => by rw [Bd.returns] at h; cases h)
  refine ⟨_, _, castTop (ef3_I m (1 : Int32)) ?_, hrun, hended, _, _, rfl, ?_, ⟨_, rfl⟩, hW, hsame.mono (by decide) (by decide)⟩
  · show Steps p.tables e below (s₁.setTop (mkF m 0 #[.val (.int 1)] [])) _
    refine XS.iloadN X0.here hx rfl (hb hby d3_0) rfl ?_
    refine XS.ifNo X0.here hx rfl (hb hby d3_1) rfl (by decide) ?_
    refine XS.iconst X0.here hx rfl (hb hby d3_4) ?_
    refine XS.goto X0.here hx rfl (pc0 := 5) (pc' := 9) rfl (hb hby d3_5) (by decide) (by decide) ?_
    show Steps p.tables e below (s₁.setTop (mkF m 9 #[.val (.int 1)] [(.int 1)])) _
    exact retI X0 hx Bd.returns (hb hby d3_9) hr
  · show QP (some (.int 1)) h0 n0 _ s₁.heap _
    rw [e0]
    exact ⟨rfl, N0, rfl⟩
theorem tw_27 {a0 : Array Value} {Z : State} (hw : ∀ d ∈ tables_1, d.before a0 Z = true) : (Jvm.Cond.initialized "com/example/orderweft/orderweft/rules/ComparisonAcceptsPinLaw").before a0 Z = true := hw _ (List.mem_of_getElem? (i := 27) rfl)
theorem pd_2 : parseMethodDescriptor "(Z)I" = some ⟨[.boolean], some .int⟩ := by decide +kernel
theorem tw_26 {a0 : Array Value} {Z : State} (hw : ∀ d ∈ tables_1, d.before a0 Z = true) : (Jvm.Cond.static ({ cls := "com/example/orderweft/orderweft/rules/ComparisonAcceptsPinLaw", name := "one", desc := "(Z)I" } : Jvm.MethodName)).before a0 Z = true := hw _ (List.mem_of_getElem? (i := 26) rfl)
theorem d3_8 : decode method_2_code 8 = .ok (.iconst 0, 1) := by decide +kernel
set_option maxRecDepth 65536 in
set_option maxHeartbeats 40000000 in
theorem rm3_30 (l : Launch) (Z : State) (a0 : Array Value) (hw : ∀ d ∈ tables_1, d.before a0 Z = true) (ws : List Jvm.Cond)  (h0 : Heap) (n0 : Nat) (Z0 : n0 ≤ h0.size) :
    MetFree l M_3 (head1 (Jvm.Cond.code M_3 method_2_code 1 (some .int) :: ws) R_0_0_0_0) (fun a U => a = #[(.int 0)] ∧ Z.Warmed39 U.vm ∧ U.heap = h0) (fun _ _ _ _ _ => True) (fun _ U o U' => ∃ v L, o = .returned v ∧ QP (some (.int 0)) h0 n0 v U'.heap L ∧ FrameEnd U o U' L R_0_0_0_0.cells R_0_0_0_0.slots) := by
  refine MetFree.of_bodySF (plainFor_of_name pn_com_example_orderweft_orderweft_rules_ComparisonAcceptsPinLaw) hisR ?_
  intro p e s m args below meth c s₁ Bd hml0 hP hK
  obtain ⟨rfl, hZ, hh⟩ := hP
  have hx := Bd.exec
  have hby := Bd.bytes
  have hml : c.maxLocals = 1 := hml0
  have hown : s.vm.findClass "com/example/orderweft/orderweft/rules/ComparisonAcceptsPinLaw" = some m.cls := findClass_of_methodNamed Bd.named
  have hnm := (name_of_methodNamed Bd.named Bd.method).1
  have X0 : Stand p l e R_0_0_0_0 s m #[(.int 0)] below meth c s₁ [] 0 0 := Stand.of_body Bd
  have e0 : s₁.heap = h0 := by rw [← hh, Bd.state]; rfl
  have N0 := Fr.nil n0
  obtain ⟨fs, hr, hrun, hended, hW, hsame⟩ := X0.leave (v := (some (.int 0))) (fun h => by rw [Bd.returns] at h; cases h)
  refine ⟨_, _, castTop (ef3_I m (0 : Int32)) ?_, hrun, hended, _, _, rfl, ?_, ⟨_, rfl⟩, hW, hsame.mono (by decide) (by decide)⟩
  · show Steps p.tables e below (s₁.setTop (mkF m 0 #[.val (.int 0)] [])) _
    refine XS.iloadN X0.here hx rfl (hb hby d3_0) rfl ?_
    refine XS.ifYes X0.here hx rfl (pc0 := 1) (pc' := 8) rfl (hb hby d3_1) rfl (by decide) (by decide) (by decide) ?_
    refine XS.iconst X0.here hx rfl (hb hby d3_8) ?_
    show Steps p.tables e below (s₁.setTop (mkF m 9 #[.val (.int 0)] [(.int 0)])) _
    exact retI X0 hx Bd.returns (hb hby d3_9) hr
  · show QP (some (.int 0)) h0 n0 _ s₁.heap _
    rw [e0]
    exact ⟨rfl, N0, rfl⟩
theorem ef0_I (m : MethodId) (x0 : Int32) : entryFrame m #[(.int x0)] maxLocals = mkF m 0 #[.val (.int x0), .unset, .unset, .unset, .unset, .unset, .unset] [] := by first | (simp [entryFrame, mkF, argsToLocals, Value.category, maxLocals]; done) | rfl
set_option maxRecDepth 65536 in
set_option maxHeartbeats 40000000 in
theorem rm0_31 (l : Launch) (Z : State) (a0 : Array Value) (hw : ∀ d ∈ tables_1, d.before a0 Z = true) (ws : List Jvm.Cond) (p0 : Int32) (a_LESS : Addr) (a_AT_MOST : Addr) (a_EQUAL : Addr) (a_AT_LEAST : Addr) (a_GREATER : Addr) (h0 : Heap) (n0 : Nat) (Z0 : n0 ≤ h0.size) (f1 : S_0 Z h0 (.ref a_LESS)) (f2 : F_0 Z h0 a_LESS (.int 0)) (f3 : E_0 Z h0 a_LESS) (f4 : p0 < (0 : Int32)) (f5 : S_1 Z h0 (.ref a_AT_MOST)) (f6 : F_0 Z h0 a_AT_MOST (.int 1)) (f7 : E_0 Z h0 a_AT_MOST) (f8 : ¬ ((0 : Int32) < p0)) (f9 : S_2 Z h0 (.ref a_EQUAL)) (f10 : F_0 Z h0 a_EQUAL (.int 2)) (f11 : E_0 Z h0 a_EQUAL) (f12 : ¬ (p0 = (0 : Int32))) (f13 : S_3 Z h0 (.ref a_AT_LEAST)) (f14 : F_0 Z h0 a_AT_LEAST (.int 3)) (f15 : E_0 Z h0 a_AT_LEAST) (f16 : S_4 Z h0 (.ref a_GREATER)) (f17 : F_0 Z h0 a_GREATER (.int 4)) (f18 : E_0 Z h0 a_GREATER) :
    MetFree l x (head1 (Jvm.Cond.code x code maxLocals ret :: ws) room_1) (fun a U => a = #[(.int p0)] ∧ Z.Warmed39 U.vm ∧ U.heap = h0) (fun _ _ _ _ _ => True) (fun _ U o U' => ∃ v L, o = .returned v ∧ QT n0 v U'.heap L ∧ FrameEnd U o U' L room_1.cells room_1.slots) := by
  refine MetFree.of_bodySF (plainFor_of_name pn_com_example_orderweft_orderweft_rules_ComparisonAcceptsPinLaw) hisR ?_
  intro p e s m args below meth c s₁ Bd hml0 hP hK
  obtain ⟨rfl, hZ, hh⟩ := hP
  have hx := Bd.exec
  have hby := Bd.bytes
  have hml : c.maxLocals = 7 := hml0
  have hown : s.vm.findClass "com/example/orderweft/orderweft/rules/ComparisonAcceptsPinLaw" = some m.cls := findClass_of_methodNamed Bd.named
  have hnm := (name_of_methodNamed Bd.named Bd.method).1
  have X0 : Stand p l e room_1 s m #[(.int p0)] below meth c s₁ [] 0 0 := Stand.of_body Bd
  have e0 : s₁.heap = h0 := by rw [← hh, Bd.state]; rfl
  have N0 := Fr.nil n0
  obtain ⟨T1, X1, e1, st1⟩ := getS2 X0 hx hZ hown (host := "") (Or.inl (tw_0 hw)) Via.refl e0 f1 (g := (mkF m 0 #[.val (.int p0), .unset, .unset, .unset, .unset, .unset, .unset] [])) rfl (hb hby at_0)
  -- pc 4: com/example/orderweft/orderweft/rules/Criterion$Comparison.accepts
  obtain ⟨cq2, kq2, q2a, q2b, q2c⟩ := isOf hZ e1 f3
  obtain ⟨_, _, ⟨T2, L2, k2, n2⟩, -, X2, ⟨Lc2, hQ2, l2, y2, z2⟩, st2⟩ := X1.virtualBack hx (y := M_2) (z := M_2) hown (mvT hZ (tw_3 hw)) (mvT hZ (tw_4 hw)) (notFace_of_selects (args := #[]) (mvT hZ (tw_6 hw))) (mvT hZ (tw_6 hw)) (mvT hZ (tw_5 hw)) (by decide) (backOf (W := 0) (rm1_20 l Z a0 hw [] a_LESS p0 h0 n0 Z0 f2 f3 f4) hZ (tw_7 hw) (tw_1 hw) (by decide) (by decide)) q2a q2c (g := (mkF m 4 #[.val (.int p0), .unset, .unset, .unset, .unset, .unset, .unset] [(.int p0), (.ref a_LESS)])) rfl (by rw [hml]; rfl) (Steps.refl _) (argsL := [(.int p0)]) (rest := []) (lenOf pd_1 rfl) rfl (by show 2 * 0 + _ ≤ _; exact Nat.le_of_eq rfl) (hb hby at_4) (fun _ _ => ⟨rfl, e1, (by decide : 0 + 0 ≤ _), (by decide : 0 + 0 ≤ _)⟩)
  dsimp only [Pt.U, Pt.locs, Pt.cells, Pt.slots] at X2 l2 y2 z2 st2 hQ2
  subst l2 y2 z2
  obtain ⟨rfl, Nq2, e2⟩ := hQ2
  have N2 := Fr.app N0 Nq2
  obtain ⟨T3, X3, e3, st3⟩ := getS2 X2 hx hZ hown (host := "") (Or.inl (tw_17 hw)) Via.refl e2 f5 (g := (mkF m 8 #[.val (.int p0), .val (.int 1), .unset, .unset, .unset, .unset, .unset] [])) rfl (hb hby at_8)
  -- pc 12: com/example/orderweft/orderweft/rules/Criterion$Comparison.accepts
  obtain ⟨cq4, kq4, q4a, q4b, q4c⟩ := isOf hZ e3 f7
  obtain ⟨_, _, ⟨T4, L4, k4, n4⟩, -, X4, ⟨Lc4, hQ4, l4, y4, z4⟩, st4⟩ := X3.virtualBack hx (y := M_2) (z := M_2) hown (mvT hZ (tw_3 hw)) (mvT hZ (tw_4 hw)) (notFace_of_selects (args := #[]) (mvT hZ (tw_6 hw))) (mvT hZ (tw_6 hw)) (mvT hZ (tw_5 hw)) (by decide) (backOf (W := 0) (rm1_22 l Z a0 hw [] a_AT_MOST p0 h0 n0 Z0 f6 f7 f8) hZ (tw_7 hw) (tw_1 hw) (by decide) (by decide)) q4a q4c (g := (mkF m 12 #[.val (.int p0), .val (.int 1), .unset, .unset, .unset, .unset, .unset] [(.int p0), (.ref a_AT_MOST)])) rfl (by rw [hml]; rfl) (Steps.refl _) (argsL := [(.int p0)]) (rest := []) (lenOf pd_1 rfl) rfl (by show 2 * 0 + _ ≤ _; exact Nat.le_of_eq rfl) (hb hby at_12) (fun _ _ => ⟨rfl, e3, (by decide : 0 + 0 ≤ _), (by decide : 0 + 0 ≤ _)⟩)
  dsimp only [Pt.U, Pt.locs, Pt.cells, Pt.slots] at X4 l4 y4 z4 st4 hQ4
  subst l4 y4 z4
  obtain ⟨rfl, Nq4, e4⟩ := hQ4
  have N4 := Fr.app N2 Nq4
  obtain ⟨T5, X5, e5, st5⟩ := getS2 X4 hx hZ hown (host := "") (Or.inl (tw_19 hw)) Via.refl e4 f9 (g := (mkF m 16 #[.val (.int p0), .val (.int 1), .val (.int 1), .unset, .unset, .unset, .unset] [])) rfl (hb hby at_16)
  -- pc 20: com/example/orderweft/orderweft/rules/Criterion$Comparison.accepts
  obtain ⟨cq6, kq6, q6a, q6b, q6c⟩ := isOf hZ e5 f11
  obtain ⟨_, _, ⟨T6, L6, k6, n6⟩, -, X6, ⟨Lc6, hQ6, l6, y6, z6⟩, st6⟩ := X5.virtualBack hx (y := M_2) (z := M_2) hown (mvT hZ (tw_3 hw)) (mvT hZ (tw_4 hw)) (notFace_of_selects (args := #[]) (mvT hZ (tw_6 hw))) (mvT hZ (tw_6 hw)) (mvT hZ (tw_5 hw)) (by decide) (backOf (W := 0) (rm1_24 l Z a0 hw [] a_EQUAL p0 h0 n0 Z0 f10 f11 f12) hZ (tw_7 hw) (tw_1 hw) (by decide) (by decide)) q6a q6c (g := (mkF m 20 #[.val (.int p0), .val (.int 1), .val (.int 1), .unset, .unset, .unset, .unset] [(.int p0), (.ref a_EQUAL)])) rfl (by rw [hml]; rfl) (Steps.refl _) (argsL := [(.int p0)]) (rest := []) (lenOf pd_1 rfl) rfl (by show 2 * 0 + _ ≤ _; exact Nat.le_of_eq rfl) (hb hby at_20) (fun _ _ => ⟨rfl, e5, (by decide : 0 + 0 ≤ _), (by decide : 0 + 0 ≤ _)⟩)
  dsimp only [Pt.U, Pt.locs, Pt.cells, Pt.slots] at X6 l6 y6 z6 st6 hQ6
  subst l6 y6 z6
  obtain ⟨rfl, Nq6, e6⟩ := hQ6
  have N6 := Fr.app N4 Nq6
  obtain ⟨T7, X7, e7, st7⟩ := getS2 X6 hx hZ hown (host := "") (Or.inl (tw_21 hw)) Via.refl e6 f13 (g := (mkF m 24 #[.val (.int p0), .val (.int 1), .val (.int 1), .val (.int 0), .unset, .unset, .unset] [])) rfl (hb hby at_24)
  -- pc 28: com/example/orderweft/orderweft/rules/Criterion$Comparison.accepts
  obtain ⟨cq8, kq8, q8a, q8b, q8c⟩ := isOf hZ e7 f15
  obtain ⟨_, _, ⟨T8, L8, k8, n8⟩, -, X8, ⟨Lc8, hQ8, l8, y8, z8⟩, st8⟩ := X7.virtualBack hx (y := M_2) (z := M_2) hown (mvT hZ (tw_3 hw)) (mvT hZ (tw_4 hw)) (notFace_of_selects (args := #[]) (mvT hZ (tw_6 hw))) (mvT hZ (tw_6 hw)) (mvT hZ (tw_5 hw)) (by decide) (backOf (W := 0) (rm1_26 l Z a0 hw [] a_AT_LEAST p0 h0 n0 Z0 f14 f15 f4) hZ (tw_7 hw) (tw_1 hw) (by decide) (by decide)) q8a q8c (g := (mkF m 28 #[.val (.int p0), .val (.int 1), .val (.int 1), .val (.int 0), .unset, .unset, .unset] [(.int p0), (.ref a_AT_LEAST)])) rfl (by rw [hml]; rfl) (Steps.refl _) (argsL := [(.int p0)]) (rest := []) (lenOf pd_1 rfl) rfl (by show 2 * 0 + _ ≤ _; exact Nat.le_of_eq rfl) (hb hby at_28) (fun _ _ => ⟨rfl, e7, (by decide : 0 + 0 ≤ _), (by decide : 0 + 0 ≤ _)⟩)
  dsimp only [Pt.U, Pt.locs, Pt.cells, Pt.slots] at X8 l8 y8 z8 st8 hQ8
  subst l8 y8 z8
  obtain ⟨rfl, Nq8, e8⟩ := hQ8
  have N8 := Fr.app N6 Nq8
  obtain ⟨T9, X9, e9, st9⟩ := getS2 X8 hx hZ hown (host := "") (Or.inl (tw_23 hw)) Via.refl e8 f16 (g := (mkF m 33 #[.val (.int p0), .val (.int 1), .val (.int 1), .val (.int 0), .val (.int 0), .unset, .unset] [])) rfl (hb hby at_33)
  -- pc 37: com/example/orderweft/orderweft/rules/Criterion$Comparison.accepts
  obtain ⟨cq10, kq10, q10a, q10b, q10c⟩ := isOf hZ e9 f18
  obtain ⟨_, _, ⟨T10, L10, k10, n10⟩, -, X10, ⟨Lc10, hQ10, l10, y10, z10⟩, st10⟩ := X9.virtualBack hx (y := M_2) (z := M_2) hown (mvT hZ (tw_3 hw)) (mvT hZ (tw_4 hw)) (notFace_of_selects (args := #[]) (mvT hZ (tw_6 hw))) (mvT hZ (tw_6 hw)) (mvT hZ (tw_5 hw)) (by decide) (backOf (W := 0) (rm1_28 l Z a0 hw [] a_GREATER p0 h0 n0 Z0 f17 f18 f8) hZ (tw_7 hw) (tw_1 hw) (by decide) (by decide)) q10a q10c (g := (mkF m 37 #[.val (.int p0), .val (.int 1), .val (.int 1), .val (.int 0), .val (.int 0), .unset, .unset] [(.int p0), (.ref a_GREATER)])) rfl (by rw [hml]; rfl) (Steps.refl _) (argsL := [(.int p0)]) (rest := []) (lenOf pd_1 rfl) rfl (by show 2 * 0 + _ ≤ _; exact Nat.le_of_eq rfl) (hb hby at_37) (fun _ _ => ⟨rfl, e9, (by decide : 0 + 0 ≤ _), (by decide : 0 + 0 ≤ _)⟩)
  dsimp only [Pt.U, Pt.locs, Pt.cells, Pt.slots] at X10 l10 y10 z10 st10 hQ10
  subst l10 y10 z10
  obtain ⟨rfl, Nq10, e10⟩ := hQ10
  have N10 := Fr.app N8 Nq10
  -- pc 43: com/example/orderweft/orderweft/rules/ComparisonAcceptsPinLaw.one
  obtain ⟨_, _, ⟨T11, L11, k11, n11⟩, -, X11, ⟨Lc11, hQ11, l11, y11, z11⟩, st11⟩ := Jvm.LawKit.callS X10 hx (y := M_3) hown (mvT hZ (tw_25 hw)) (mvT hZ (tw_26 hw)) (mvT hZ (tw_27 hw)) (mvT hZ (tw_28 hw)) (by decide) (backOf (W := 0) (rm3_29 l Z a0 hw []  h0 n0 Z0 ) hZ (tw_28 hw) (tw_27 hw) (by decide) (by decide)) (g := (mkF m 43 #[.val (.int p0), .val (.int 1), .val (.int 1), .val (.int 0), .val (.int 0), .val (.int 0), .unset] [(.int 1)])) rfl (by rw [hml]; rfl) (argsL := [(.int 1)]) (rest := []) (lenOf pd_2 rfl) rfl (by show 2 * 0 + _ ≤ _; exact Nat.le_of_eq rfl) (hb hby at_43) (fun _ _ => ⟨rfl, e10, (by decide : 0 + 0 ≤ _), (by decide : 0 + 0 ≤ _)⟩)
  dsimp only [Pt.U, Pt.locs, Pt.cells, Pt.slots] at X11 l11 y11 z11 st11 hQ11
  subst l11 y11 z11
  obtain ⟨rfl, Nq11, e11⟩ := hQ11
  have N11 := Fr.app N10 Nq11
  -- pc 47: com/example/orderweft/orderweft/rules/ComparisonAcceptsPinLaw.one
  obtain ⟨_, _, ⟨T12, L12, k12, n12⟩, -, X12, ⟨Lc12, hQ12, l12, y12, z12⟩, st12⟩ := Jvm.LawKit.callS X11 hx (y := M_3) hown (mvT hZ (tw_25 hw)) (mvT hZ (tw_26 hw)) (mvT hZ (tw_27 hw)) (mvT hZ (tw_28 hw)) (by decide) (backOf (W := 1) (rm3_30 l Z a0 hw []  h0 n0 Z0 ) hZ (tw_28 hw) (tw_27 hw) (by decide) (by decide)) (g := (mkF m 47 #[.val (.int p0), .val (.int 1), .val (.int 1), .val (.int 0), .val (.int 0), .val (.int 0), .unset] [(.int 0), (.int 1)])) rfl (by rw [hml]; rfl) (argsL := [(.int 0)]) (rest := [(.int 1)]) (lenOf pd_2 rfl) rfl (by show 2 * 0 + _ ≤ _; exact Nat.le_of_eq rfl) (hb hby at_47) (fun _ _ => ⟨rfl, e11, (by decide : 0 + 0 ≤ _), (by decide : 0 + 0 ≤ _)⟩)
  dsimp only [Pt.U, Pt.locs, Pt.cells, Pt.slots] at X12 l12 y12 z12 st12 hQ12
  subst l12 y12 z12
  obtain ⟨rfl, Nq12, e12⟩ := hQ12
  have N12 := Fr.app N11 Nq12
  -- pc 53: com/example/orderweft/orderweft/rules/ComparisonAcceptsPinLaw.one
  obtain ⟨_, _, ⟨T13, L13, k13, n13⟩, -, X13, ⟨Lc13, hQ13, l13, y13, z13⟩, st13⟩ := Jvm.LawKit.callS X12 hx (y := M_3) hown (mvT hZ (tw_25 hw)) (mvT hZ (tw_26 hw)) (mvT hZ (tw_27 hw)) (mvT hZ (tw_28 hw)) (by decide) (backOf (W := 1) (rm3_30 l Z a0 hw []  h0 n0 Z0 ) hZ (tw_28 hw) (tw_27 hw) (by decide) (by decide)) (g := (mkF m 53 #[.val (.int p0), .val (.int 1), .val (.int 1), .val (.int 0), .val (.int 0), .val (.int 0), .unset] [(.int 0), (.int 1)])) rfl (by rw [hml]; rfl) (argsL := [(.int 0)]) (rest := [(.int 1)]) (lenOf pd_2 rfl) rfl (by show 2 * 0 + _ ≤ _; exact Nat.le_of_eq rfl) (hb hby at_53) (fun _ _ => ⟨rfl, e12, (by decide : 0 + 0 ≤ _), (by decide : 0 + 0 ≤ _)⟩)
  dsimp only [Pt.U, Pt.locs, Pt.cells, Pt.slots] at X13 l13 y13 z13 st13 hQ13
  subst l13 y13 z13
  obtain ⟨rfl, Nq13, e13⟩ := hQ13
  have N13 := Fr.app N12 Nq13
  obtain ⟨fs, hr, hrun, hended, hW, hsame⟩ := X13.leave (v := (some (.int 1))) (fun h => by rw [Bd.returns] at h; cases h)
  refine ⟨_, _, castTop (ef0_I m p0) ?_, hrun, hended, _, _, rfl, ?_, ⟨_, rfl⟩, hW, hsame.mono (by decide) (by decide)⟩
  · show Steps p.tables e below (s₁.setTop (mkF m 0 #[.val (.int p0), .unset, .unset, .unset, .unset, .unset, .unset] [])) _
    refine st1 _ ?_
    refine XS.iloadN X1.here hx rfl (hb hby at_3) rfl ?_
    show Steps p.tables e below (T1.setTop (mkF m 4 #[.val (.int p0), .unset, .unset, .unset, .unset, .unset, .unset] [(.int p0), (.ref a_LESS)])) _
    refine st2.trans ?_
    refine XS.istoreN X2.here hx rfl (hb hby at_7) rfl (l' := #[.val (.int p0), .val (.int 1), .unset, .unset, .unset, .unset, .unset]) rfl ?_
    show Steps p.tables e below (T2.setTop (mkF m 8 #[.val (.int p0), .val (.int 1), .unset, .unset, .unset, .unset, .unset] [])) _
    refine st3 _ ?_
    refine XS.iloadN X3.here hx rfl (hb hby at_11) rfl ?_
    show Steps p.tables e below (T3.setTop (mkF m 12 #[.val (.int p0), .val (.int 1), .unset, .unset, .unset, .unset, .unset] [(.int p0), (.ref a_AT_MOST)])) _
    refine st4.trans ?_
    refine XS.istoreN X4.here hx rfl (hb hby at_15) rfl (l' := #[.val (.int p0), .val (.int 1), .val (.int 1), .unset, .unset, .unset, .unset]) rfl ?_
    show Steps p.tables e below (T4.setTop (mkF m 16 #[.val (.int p0), .val (.int 1), .val (.int 1), .unset, .unset, .unset, .unset] [])) _
    refine st5 _ ?_
    refine XS.iloadN X5.here hx rfl (hb hby at_19) rfl ?_
    show Steps p.tables e below (T5.setTop (mkF m 20 #[.val (.int p0), .val (.int 1), .val (.int 1), .unset, .unset, .unset, .unset] [(.int p0), (.ref a_EQUAL)])) _
    refine st6.trans ?_
    refine XS.istoreN X6.here hx rfl (hb hby at_23) rfl (l' := #[.val (.int p0), .val (.int 1), .val (.int 1), .val (.int 0), .unset, .unset, .unset]) rfl ?_
    show Steps p.tables e below (T6.setTop (mkF m 24 #[.val (.int p0), .val (.int 1), .val (.int 1), .val (.int 0), .unset, .unset, .unset] [])) _
    refine st7 _ ?_
    refine XS.iloadN X7.here hx rfl (hb hby at_27) rfl ?_
    show Steps p.tables e below (T7.setTop (mkF m 28 #[.val (.int p0), .val (.int 1), .val (.int 1), .val (.int 0), .unset, .unset, .unset] [(.int p0), (.ref a_AT_LEAST)])) _
    refine st8.trans ?_
    refine XS.istore X8.here hx rfl (hb hby at_31) rfl (l' := #[.val (.int p0), .val (.int 1), .val (.int 1), .val (.int 0), .val (.int 0), .unset, .unset]) rfl ?_
    show Steps p.tables e below (T8.setTop (mkF m 33 #[.val (.int p0), .val (.int 1), .val (.int 1), .val (.int 0), .val (.int 0), .unset, .unset] [])) _
    refine st9 _ ?_
    refine XS.iloadN X9.here hx rfl (hb hby at_36) rfl ?_
    show Steps p.tables e below (T9.setTop (mkF m 37 #[.val (.int p0), .val (.int 1), .val (.int 1), .val (.int 0), .val (.int 0), .unset, .unset] [(.int p0), (.ref a_GREATER)])) _
    refine st10.trans ?_
    refine XS.istore X10.here hx rfl (hb hby at_40) rfl (l' := #[.val (.int p0), .val (.int 1), .val (.int 1), .val (.int 0), .val (.int 0), .val (.int 0), .unset]) rfl ?_
    refine XS.iloadN X10.here hx rfl (hb hby at_42) rfl ?_
    show Steps p.tables e below (T10.setTop (mkF m 43 #[.val (.int p0), .val (.int 1), .val (.int 1), .val (.int 0), .val (.int 0), .val (.int 0), .unset] [(.int 1)])) _
    refine st11 _ ?_
    refine XS.iloadN X11.here hx rfl (hb hby at_46) rfl ?_
    show Steps p.tables e below (T11.setTop (mkF m 47 #[.val (.int p0), .val (.int 1), .val (.int 1), .val (.int 0), .val (.int 0), .val (.int 0), .unset] [(.int 0), (.int 1)])) _
    refine st12 _ ?_
    show Steps p.tables e below (T12.setTop (mkF m 50 #[.val (.int p0), .val (.int 1), .val (.int 1), .val (.int 0), .val (.int 0), .val (.int 0), .unset] [(.int 0), (.int 1)])) _
    refine XS.iadd X12.here hx rfl (hb hby at_50) rfl ?_
    show Steps p.tables e below (T12.setTop (mkF m 51 #[.val (.int p0), .val (.int 1), .val (.int 1), .val (.int 0), .val (.int 0), .val (.int 0), .unset] [(.int ((1 : Int32) + (0 : Int32)))])) _
    rw [show ((1 : Int32) + (0 : Int32)) = (1 : Int32) from by decide]
    refine XS.iload X12.here hx rfl (hb hby at_51) rfl ?_
    show Steps p.tables e below (T12.setTop (mkF m 53 #[.val (.int p0), .val (.int 1), .val (.int 1), .val (.int 0), .val (.int 0), .val (.int 0), .unset] [(.int 0), (.int 1)])) _
    refine st13 _ ?_
    show Steps p.tables e below (T13.setTop (mkF m 56 #[.val (.int p0), .val (.int 1), .val (.int 1), .val (.int 0), .val (.int 0), .val (.int 0), .unset] [(.int 0), (.int 1)])) _
    refine XS.iadd X13.here hx rfl (hb hby at_56) rfl ?_
    show Steps p.tables e below (T13.setTop (mkF m 57 #[.val (.int p0), .val (.int 1), .val (.int 1), .val (.int 0), .val (.int 0), .val (.int 0), .unset] [(.int ((1 : Int32) + (0 : Int32)))])) _
    rw [show ((1 : Int32) + (0 : Int32)) = (1 : Int32) from by decide]
    refine XS.iconst X13.here hx rfl (hb hby at_57) ?_
    refine XS.icmpNo X13.here hx rfl (hb hby at_58) rfl (by decide) ?_
    refine XS.iconst X13.here hx rfl (hb hby at_61) ?_
    refine XS.goto X13.here hx rfl (pc0 := 62) (pc' := 66) rfl (hb hby at_62) (by decide) (by decide) ?_
    show Steps p.tables e below (T13.setTop (mkF m 66 #[.val (.int p0), .val (.int 1), .val (.int 1), .val (.int 0), .val (.int 0), .val (.int 0), .unset] [(.int 1)])) _
    refine XS.istore X13.here hx rfl (hb hby at_66) rfl (l' := #[.val (.int p0), .val (.int 1), .val (.int 1), .val (.int 0), .val (.int 0), .val (.int 0), .val (.int 1)]) rfl ?_
    refine XS.iloadN X13.here hx rfl (hb hby at_68) rfl ?_
    refine XS.iloadN X13.here hx rfl (hb hby at_69) rfl ?_
    refine XS.ifNo X13.here hx rfl (hb hby at_70) rfl ((if0 _ _).trans (tlt (f4 : p0 < (0 : Int32))).2.1) ?_
    refine XS.iconst X13.here hx rfl (hb hby at_73) ?_
    show Steps p.tables e below (T13.setTop (mkF m 74 #[.val (.int p0), .val (.int 1), .val (.int 1), .val (.int 0), .val (.int 0), .val (.int 0), .val (.int 1)] [(.int 1), (.int 1)])) _
    refine XS.goto X13.here hx rfl (pc0 := 74) (pc' := 78) rfl (hb hby at_74) (by decide) (by decide) ?_
    refine XS.icmpNo X13.here hx rfl (hb hby at_78) rfl (by decide) ?_
    refine XS.iload X13.here hx rfl (hb hby at_81) rfl ?_
    refine XS.iloadN X13.here hx rfl (hb hby at_83) rfl ?_
    refine XS.ifYes X13.here hx rfl (pc0 := 84) (pc' := 91) rfl (hb hby at_84) rfl ((if0 _ _).trans (flt (f8 : ¬ ((0 : Int32) < p0))).2.2.2) (by decide) (by decide) ?_
    show Steps p.tables e below (T13.setTop (mkF m 91 #[.val (.int p0), .val (.int 1), .val (.int 1), .val (.int 0), .val (.int 0), .val (.int 0), .val (.int 1)] [(.int 0)])) _
    refine XS.iconst X13.here hx rfl (hb hby at_91) ?_
    refine XS.icmpNo X13.here hx rfl (hb hby at_92) rfl (by decide) ?_
    refine XS.iload X13.here hx rfl (hb hby at_95) rfl ?_
    refine XS.ifNo X13.here hx rfl (hb hby at_97) rfl (by decide) ?_
    refine XS.iloadN X13.here hx rfl (hb hby at_100) rfl ?_
    show Steps p.tables e below (T13.setTop (mkF m 101 #[.val (.int p0), .val (.int 1), .val (.int 1), .val (.int 0), .val (.int 0), .val (.int 0), .val (.int 1)] [(.int 1)])) _
    refine XS.iloadN X13.here hx rfl (hb hby at_101) rfl ?_
    refine XS.ifYes X13.here hx rfl (pc0 := 102) (pc' := 109) rfl (hb hby at_102) rfl (by decide) (by decide) (by decide) ?_
    refine XS.iconst X13.here hx rfl (hb hby at_109) ?_
    refine XS.goto X13.here hx rfl (pc0 := 110) (pc' := 114) rfl (hb hby at_110) (by decide) (by decide) ?_
    refine XS.icmpNo X13.here hx rfl (hb hby at_114) rfl (by decide) ?_
    show Steps p.tables e below (T13.setTop (mkF m 117 #[.val (.int p0), .val (.int 1), .val (.int 1), .val (.int 0), .val (.int 0), .val (.int 0), .val (.int 1)] [])) _
    refine XS.iload X13.here hx rfl (hb hby at_117) rfl ?_
    refine XS.iload X13.here hx rfl (hb hby at_119) rfl ?_
    refine XS.ifNo X13.here hx rfl (hb hby at_121) rfl (by decide) ?_
    refine XS.iloadN X13.here hx rfl (hb hby at_124) rfl ?_
    refine XS.ifYes X13.here hx rfl (pc0 := 125) (pc' := 132) rfl (hb hby at_125) rfl (by decide) (by decide) (by decide) ?_
    show Steps p.tables e below (T13.setTop (mkF m 132 #[.val (.int p0), .val (.int 1), .val (.int 1), .val (.int 0), .val (.int 0), .val (.int 0), .val (.int 1)] [(.int 0)])) _
    refine XS.iconst X13.here hx rfl (hb hby at_132) ?_
    refine XS.icmpNo X13.here hx rfl (hb hby at_133) rfl (by decide) ?_
    refine XS.iconst X13.here hx rfl (hb hby at_136) ?_
    refine XS.goto X13.here hx rfl (pc0 := 137) (pc' := 141) rfl (hb hby at_137) (by decide) (by decide) ?_
    show Steps p.tables e below (T13.setTop (mkF m 141 #[.val (.int p0), .val (.int 1), .val (.int 1), .val (.int 0), .val (.int 0), .val (.int 0), .val (.int 1)] [(.int 1)])) _
    exact retN X13 hx (t := .boolean) Bd.returns (by simp) (hb hby at_141) hr
  · show QT n0 _ T13.heap _
    rw [e13]
    exact ⟨rfl, N13⟩
theorem d1_58 : decode prog_61_method_4_code 58 = .ok (.iconst 0, 1) := by decide +kernel
theorem d1_59 : decode prog_61_method_4_code 59 = .ok (.goto 48, 3) := by decide +kernel
set_option maxRecDepth 65536 in
set_option maxHeartbeats 40000000 in
theorem rm1_32 (l : Launch) (Z : State) (a0 : Array Value) (hw : ∀ d ∈ tables_1, d.before a0 Z = true) (ws : List Jvm.Cond) (a_LESS : Addr) (p0 : Int32) (h0 : Heap) (n0 : Nat) (Z0 : n0 ≤ h0.size) (f1 : F_0 Z h0 a_LESS (.int 0)) (f2 : E_0 Z h0 a_LESS) (f3 : ¬ (p0 < (0 : Int32))) :
    MetFree l M_2 (head1 (Jvm.Cond.code M_2 prog_61_method_4_code 2 (some .boolean) :: ws) R_1_0_0_12) (fun a U => a = #[(.ref a_LESS), (.int p0)] ∧ Z.Warmed39 U.vm ∧ U.heap = h0) (fun _ _ _ _ _ => True) (fun _ U o U' => ∃ v L, o = .returned v ∧ QP (some (.int 0)) h0 n0 v U'.heap L ∧ FrameEnd U o U' L R_1_0_0_12.cells R_1_0_0_12.slots) := by
  refine MetFree.of_bodySF (plainFor_of_name pn_com_example_orderweft_orderweft_rules_Criterion_Comparison) hisR ?_
  intro p e s m args below meth c s₁ Bd hml0 hP hK
  obtain ⟨rfl, hZ, hh⟩ := hP
  have hx := Bd.exec
  have hby := Bd.bytes
  have hml : c.maxLocals = 2 := hml0
  have hown : s.vm.findClass "com/example/orderweft/orderweft/rules/Criterion$Comparison" = some m.cls := findClass_of_methodNamed Bd.named
  have hnm := (name_of_methodNamed Bd.named Bd.method).1
  have X0 : Stand p l e R_1_0_0_12 s m #[(.ref a_LESS), (.int p0)] below meth c s₁ [] 0 0 := Stand.of_body Bd
  have e0 : s₁.heap = h0 := by rw [← hh, Bd.state]; rfl
  have N0 := Fr.nil n0
  -- pc 1: java/lang/Enum.ordinal
  obtain ⟨cq1, kq1, q1a, q1b, q1c⟩ := isOf hZ e0 f2
  obtain ⟨_, _, ⟨T1, L1, k1, n1⟩, -, X1, ⟨Lc1, hQ1, l1, y1, z1⟩, st1⟩ := X0.virtualBackUp hx (x := M_1) (y := M_0) (owner := "java/lang/Enum") hown (mvT hZ (tw_8 hw)) (mvT hZ (tw_9 hw)) (mvT hZ (tw_10 hw)) (by decide) (mvT hZ (tw_12 hw)) (mvT hZ (tw_11 hw)) (backOf (W := 0) (rm2_19 l Z a0 hw [] a_LESS h0 n0 Z0 f1) hZ (tw_14 hw) (tw_13 hw) (by decide) (by decide)) q1a q1c (g := (mkF m 1 #[.val (.ref a_LESS), .val (.int p0)] [(.ref a_LESS)])) rfl (by rw [hml]; rfl) (Steps.refl _) (argsL := []) (rest := []) (lenOf pd_0 rfl) rfl (by show 2 * 0 + _ ≤ _; exact Nat.le_of_eq rfl) (hb hby d1_1) (fun _ _ => ⟨rfl, e0, (by decide : 0 + 0 ≤ _), (by decide : 0 + 0 ≤ _)⟩)
  dsimp only [Pt.U, Pt.locs, Pt.cells, Pt.slots] at X1 l1 y1 z1 st1 hQ1
  subst l1 y1 z1
  obtain ⟨rfl, Nq1, e1⟩ := hQ1
  have N1 := Fr.app N0 Nq1
  obtain ⟨fs, hr, hrun, hended, hW, hsame⟩ := X1.leave (v := (some (.int 0))) (fun h => by rw [Bd.returns] at h; cases h)
  refine ⟨_, _, castTop (ef1_RI m a_LESS p0) ?_, hrun, hended, _, _, rfl, ?_, ⟨_, rfl⟩, hW, hsame.mono (by decide) (by decide)⟩
  · show Steps p.tables e below (s₁.setTop (mkF m 0 #[.val (.ref a_LESS), .val (.int p0)] [])) _
    refine XS.aloadN X0.here hx rfl (hb hby d1_0) rfl rfl ?_
    show Steps p.tables e below (s₁.setTop (mkF m 1 #[.val (.ref a_LESS), .val (.int p0)] [(.ref a_LESS)])) _
    refine st1.trans ?_
    show Steps p.tables e below (T1.setTop (mkF m 4 #[.val (.ref a_LESS), .val (.int p0)] [(.int 0)])) _
    refine XS.tswIn X1.here hx rfl (pc0 := 4) (pc' := 50) (o := 46) rfl (hb hby d1_4) rfl (by decide) (by decide) (by decide) (by decide) ?_
    refine XS.iloadN X1.here hx rfl (hb hby d1_50) rfl ?_
    refine XS.ifYes X1.here hx rfl (pc0 := 51) (pc' := 58) rfl (hb hby d1_51) rfl ((if0 _ _).trans (flt (f3 : ¬ (p0 < (0 : Int32)))).2.1) (by decide) (by decide) ?_
    refine XS.iconst X1.here hx rfl (hb hby d1_58) ?_
    refine XS.goto X1.here hx rfl (pc0 := 59) (pc' := 107) rfl (hb hby d1_59) (by decide) (by decide) ?_
    show Steps p.tables e below (T1.setTop (mkF m 107 #[.val (.ref a_LESS), .val (.int p0)] [(.int 0)])) _
    exact retN X1 hx (t := .boolean) Bd.returns (by simp) (hb hby d1_107) hr
  · show QP (some (.int 0)) h0 n0 _ T1.heap _
    rw [e1]
    exact ⟨rfl, N1, rfl⟩
theorem d1_78 : decode prog_61_method_4_code 78 = .ok (.iconst 1, 1) := by decide +kernel
theorem d1_79 : decode prog_61_method_4_code 79 = .ok (.goto 28, 3) := by decide +kernel
set_option maxRecDepth 65536 in
set_option maxHeartbeats 40000000 in
theorem rm1_33 (l : Launch) (Z : State) (a0 : Array Value) (hw : ∀ d ∈ tables_1, d.before a0 Z = true) (ws : List Jvm.Cond) (a_EQUAL : Addr) (p0 : Int32) (h0 : Heap) (n0 : Nat) (Z0 : n0 ≤ h0.size) (f1 : F_0 Z h0 a_EQUAL (.int 2)) (f2 : E_0 Z h0 a_EQUAL) (f3 : p0 = (0 : Int32)) :
    MetFree l M_2 (head1 (Jvm.Cond.code M_2 prog_61_method_4_code 2 (some .boolean) :: ws) R_1_0_0_12) (fun a U => a = #[(.ref a_EQUAL), (.int p0)] ∧ Z.Warmed39 U.vm ∧ U.heap = h0) (fun _ _ _ _ _ => True) (fun _ U o U' => ∃ v L, o = .returned v ∧ QP (some (.int 1)) h0 n0 v U'.heap L ∧ FrameEnd U o U' L R_1_0_0_12.cells R_1_0_0_12.slots) := by
  refine MetFree.of_bodySF (plainFor_of_name pn_com_example_orderweft_orderweft_rules_Criterion_Comparison) hisR ?_
  intro p e s m args below meth c s₁ Bd hml0 hP hK
  obtain ⟨rfl, hZ, hh⟩ := hP
  have hx := Bd.exec
  have hby := Bd.bytes
  have hml : c.maxLocals = 2 := hml0
  have hown : s.vm.findClass "com/example/orderweft/orderweft/rules/Criterion$Comparison" = some m.cls := findClass_of_methodNamed Bd.named
  have hnm := (name_of_methodNamed Bd.named Bd.method).1
  have X0 : Stand p l e R_1_0_0_12 s m #[(.ref a_EQUAL), (.int p0)] below meth c s₁ [] 0 0 := Stand.of_body Bd
  have e0 : s₁.heap = h0 := by rw [← hh, Bd.state]; rfl
  have N0 := Fr.nil n0
  -- pc 1: java/lang/Enum.ordinal
  obtain ⟨cq1, kq1, q1a, q1b, q1c⟩ := isOf hZ e0 f2
  obtain ⟨_, _, ⟨T1, L1, k1, n1⟩, -, X1, ⟨Lc1, hQ1, l1, y1, z1⟩, st1⟩ := X0.virtualBackUp hx (x := M_1) (y := M_0) (owner := "java/lang/Enum") hown (mvT hZ (tw_8 hw)) (mvT hZ (tw_9 hw)) (mvT hZ (tw_10 hw)) (by decide) (mvT hZ (tw_12 hw)) (mvT hZ (tw_11 hw)) (backOf (W := 0) (rm2_23 l Z a0 hw [] a_EQUAL h0 n0 Z0 f1) hZ (tw_14 hw) (tw_13 hw) (by decide) (by decide)) q1a q1c (g := (mkF m 1 #[.val (.ref a_EQUAL), .val (.int p0)] [(.ref a_EQUAL)])) rfl (by rw [hml]; rfl) (Steps.refl _) (argsL := []) (rest := []) (lenOf pd_0 rfl) rfl (by show 2 * 0 + _ ≤ _; exact Nat.le_of_eq rfl) (hb hby d1_1) (fun _ _ => ⟨rfl, e0, (by decide : 0 + 0 ≤ _), (by decide : 0 + 0 ≤ _)⟩)
  dsimp only [Pt.U, Pt.locs, Pt.cells, Pt.slots] at X1 l1 y1 z1 st1 hQ1
  subst l1 y1 z1
  obtain ⟨rfl, Nq1, e1⟩ := hQ1
  have N1 := Fr.app N0 Nq1
  obtain ⟨fs, hr, hrun, hended, hW, hsame⟩ := X1.leave (v := (some (.int 1))) (fun h => by rw [Bd.returns] at h; cases h)
  refine ⟨_, _, castTop (ef1_RI m a_EQUAL p0) ?_, hrun, hended, _, _, rfl, ?_, ⟨_, rfl⟩, hW, hsame.mono (by decide) (by decide)⟩
  · show Steps p.tables e below (s₁.setTop (mkF m 0 #[.val (.ref a_EQUAL), .val (.int p0)] [])) _
    refine XS.aloadN X0.here hx rfl (hb hby d1_0) rfl rfl ?_
    show Steps p.tables e below (s₁.setTop (mkF m 1 #[.val (.ref a_EQUAL), .val (.int p0)] [(.ref a_EQUAL)])) _
    refine st1.trans ?_
    show Steps p.tables e below (T1.setTop (mkF m 4 #[.val (.ref a_EQUAL), .val (.int p0)] [(.int 2)])) _
    refine XS.tswIn X1.here hx rfl (pc0 := 4) (pc' := 74) (o := 70) rfl (hb hby d1_4) rfl (by decide) (by decide) (by decide) (by decide) ?_
    refine XS.iloadN X1.here hx rfl (hb hby d1_74) rfl ?_
    refine XS.ifNo X1.here hx rfl (hb hby d1_75) rfl ((if0 _ _).trans (teq (f3 : p0 = (0 : Int32))).2) ?_
    refine XS.iconst X1.here hx rfl (hb hby d1_78) ?_
    refine XS.goto X1.here hx rfl (pc0 := 79) (pc' := 107) rfl (hb hby d1_79) (by decide) (by decide) ?_
    show Steps p.tables e below (T1.setTop (mkF m 107 #[.val (.ref a_EQUAL), .val (.int p0)] [(.int 1)])) _
    exact retN X1 hx (t := .boolean) Bd.returns (by simp) (hb hby d1_107) hr
  · show QP (some (.int 1)) h0 n0 _ T1.heap _
    rw [e1]
    exact ⟨rfl, N1, rfl⟩
theorem d1_90 : decode prog_61_method_4_code 90 = .ok (.iconst 1, 1) := by decide +kernel
theorem d1_91 : decode prog_61_method_4_code 91 = .ok (.goto 16, 3) := by decide +kernel
set_option maxRecDepth 65536 in
set_option maxHeartbeats 40000000 in
theorem rm1_34 (l : Launch) (Z : State) (a0 : Array Value) (hw : ∀ d ∈ tables_1, d.before a0 Z = true) (ws : List Jvm.Cond) (a_AT_LEAST : Addr) (p0 : Int32) (h0 : Heap) (n0 : Nat) (Z0 : n0 ≤ h0.size) (f1 : F_0 Z h0 a_AT_LEAST (.int 3)) (f2 : E_0 Z h0 a_AT_LEAST) (f3 : ¬ (p0 < (0 : Int32))) :
    MetFree l M_2 (head1 (Jvm.Cond.code M_2 prog_61_method_4_code 2 (some .boolean) :: ws) R_1_0_0_12) (fun a U => a = #[(.ref a_AT_LEAST), (.int p0)] ∧ Z.Warmed39 U.vm ∧ U.heap = h0) (fun _ _ _ _ _ => True) (fun _ U o U' => ∃ v L, o = .returned v ∧ QP (some (.int 1)) h0 n0 v U'.heap L ∧ FrameEnd U o U' L R_1_0_0_12.cells R_1_0_0_12.slots) := by
  refine MetFree.of_bodySF (plainFor_of_name pn_com_example_orderweft_orderweft_rules_Criterion_Comparison) hisR ?_
  intro p e s m args below meth c s₁ Bd hml0 hP hK
  obtain ⟨rfl, hZ, hh⟩ := hP
  have hx := Bd.exec
  have hby := Bd.bytes
  have hml : c.maxLocals = 2 := hml0
  have hown : s.vm.findClass "com/example/orderweft/orderweft/rules/Criterion$Comparison" = some m.cls := findClass_of_methodNamed Bd.named
  have hnm := (name_of_methodNamed Bd.named Bd.method).1
  have X0 : Stand p l e R_1_0_0_12 s m #[(.ref a_AT_LEAST), (.int p0)] below meth c s₁ [] 0 0 := Stand.of_body Bd
  have e0 : s₁.heap = h0 := by rw [← hh, Bd.state]; rfl
  have N0 := Fr.nil n0
  -- pc 1: java/lang/Enum.ordinal
  obtain ⟨cq1, kq1, q1a, q1b, q1c⟩ := isOf hZ e0 f2
  obtain ⟨_, _, ⟨T1, L1, k1, n1⟩, -, X1, ⟨Lc1, hQ1, l1, y1, z1⟩, st1⟩ := X0.virtualBackUp hx (x := M_1) (y := M_0) (owner := "java/lang/Enum") hown (mvT hZ (tw_8 hw)) (mvT hZ (tw_9 hw)) (mvT hZ (tw_10 hw)) (by decide) (mvT hZ (tw_12 hw)) (mvT hZ (tw_11 hw)) (backOf (W := 0) (rm2_25 l Z a0 hw [] a_AT_LEAST h0 n0 Z0 f1) hZ (tw_14 hw) (tw_13 hw) (by decide) (by decide)) q1a q1c (g := (mkF m 1 #[.val (.ref a_AT_LEAST), .val (.int p0)] [(.ref a_AT_LEAST)])) rfl (by rw [hml]; rfl) (Steps.refl _) (argsL := []) (rest := []) (lenOf pd_0 rfl) rfl (by show 2 * 0 + _ ≤ _; exact Nat.le_of_eq rfl) (hb hby d1_1) (fun _ _ => ⟨rfl, e0, (by decide : 0 + 0 ≤ _), (by decide : 0 + 0 ≤ _)⟩)
  dsimp only [Pt.U, Pt.locs, Pt.cells, Pt.slots] at X1 l1 y1 z1 st1 hQ1
  subst l1 y1 z1
  obtain ⟨rfl, Nq1, e1⟩ := hQ1
  have N1 := Fr.app N0 Nq1
  obtain ⟨fs, hr, hrun, hended, hW, hsame⟩ := X1.leave (v := (some (.int 1))) (fun h => by rw [Bd.returns] at h; cases h)
  refine ⟨_, _, castTop (ef1_RI m a_AT_LEAST p0) ?_, hrun, hended, _, _, rfl, ?_, ⟨_, rfl⟩, hW, hsame.mono (by decide) (by decide)⟩
  · show Steps p.tables e below (s₁.setTop (mkF m 0 #[.val (.ref a_AT_LEAST), .val (.int p0)] [])) _
    refine XS.aloadN X0.here hx rfl (hb hby d1_0) rfl rfl ?_
    show Steps p.tables e below (s₁.setTop (mkF m 1 #[.val (.ref a_AT_LEAST), .val (.int p0)] [(.ref a_AT_LEAST)])) _
    refine st1.trans ?_
    show Steps p.tables e below (T1.setTop (mkF m 4 #[.val (.ref a_AT_LEAST), .val (.int p0)] [(.int 3)])) _
    refine XS.tswIn X1.here hx rfl (pc0 := 4) (pc' := 86) (o := 82) rfl (hb hby d1_4) rfl (by decide) (by decide) (by decide) (by decide) ?_
    refine XS.iloadN X1.here hx rfl (hb hby d1_86) rfl ?_
    refine XS.ifNo X1.here hx rfl (hb hby d1_87) rfl ((if0 _ _).trans (flt (f3 : ¬ (p0 < (0 : Int32)))).1) ?_
    refine XS.iconst X1.here hx rfl (hb hby d1_90) ?_
    refine XS.goto X1.here hx rfl (pc0 := 91) (pc' := 107) rfl (hb hby d1_91) (by decide) (by decide) ?_
    show Steps p.tables e below (T1.setTop (mkF m 107 #[.val (.ref a_AT_LEAST), .val (.int p0)] [(.int 1)])) _
    exact retN X1 hx (t := .boolean) Bd.returns (by simp) (hb hby d1_107) hr
  · show QP (some (.int 1)) h0 n0 _ T1.heap _
    rw [e1]
    exact ⟨rfl, N1, rfl⟩
set_option maxRecDepth 65536 in
set_option maxHeartbeats 40000000 in
theorem rm0_35 (l : Launch) (Z : State) (a0 : Array Value) (hw : ∀ d ∈ tables_1, d.before a0 Z = true) (ws : List Jvm.Cond) (p0 : Int32) (a_LESS : Addr) (a_AT_MOST : Addr) (a_EQUAL : Addr) (a_AT_LEAST : Addr) (a_GREATER : Addr) (h0 : Heap) (n0 : Nat) (Z0 : n0 ≤ h0.size) (f1 : S_0 Z h0 (.ref a_LESS)) (f2 : F_0 Z h0 a_LESS (.int 0)) (f3 : E_0 Z h0 a_LESS) (f4 : ¬ (p0 < (0 : Int32))) (f5 : S_1 Z h0 (.ref a_AT_MOST)) (f6 : F_0 Z h0 a_AT_MOST (.int 1)) (f7 : E_0 Z h0 a_AT_MOST) (f8 : ¬ ((0 : Int32) < p0)) (f9 : S_2 Z h0 (.ref a_EQUAL)) (f10 : F_0 Z h0 a_EQUAL (.int 2)) (f11 : E_0 Z h0 a_EQUAL) (f12 : p0 = (0 : Int32)) (f13 : S_3 Z h0 (.ref a_AT_LEAST)) (f14 : F_0 Z h0 a_AT_LEAST (.int 3)) (f15 : E_0 Z h0 a_AT_LEAST) (f16 : S_4 Z h0 (.ref a_GREATER)) (f17 : F_0 Z h0 a_GREATER (.int 4)) (f18 : E_0 Z h0 a_GREATER) :
    MetFree l x (head1 (Jvm.Cond.code x code maxLocals ret :: ws) room_1) (fun a U => a = #[(.int p0)] ∧ Z.Warmed39 U.vm ∧ U.heap = h0) (fun _ _ _ _ _ => True) (fun _ U o U' => ∃ v L, o = .returned v ∧ QT n0 v U'.heap L ∧ FrameEnd U o U' L room_1.cells room_1.slots) := by
  refine MetFree.of_bodySF (plainFor_of_name pn_com_example_orderweft_orderweft_rules_ComparisonAcceptsPinLaw) hisR ?_
  intro p e s m args below meth c s₁ Bd hml0 hP hK
  obtain ⟨rfl, hZ, hh⟩ := hP
  have hx := Bd.exec
  have hby := Bd.bytes
  have hml : c.maxLocals = 7 := hml0
  have hown : s.vm.findClass "com/example/orderweft/orderweft/rules/ComparisonAcceptsPinLaw" = some m.cls := findClass_of_methodNamed Bd.named
  have hnm := (name_of_methodNamed Bd.named Bd.method).1
  have X0 : Stand p l e room_1 s m #[(.int p0)] below meth c s₁ [] 0 0 := Stand.of_body Bd
  have e0 : s₁.heap = h0 := by rw [← hh, Bd.state]; rfl
  have N0 := Fr.nil n0
  obtain ⟨T1, X1, e1, st1⟩ := getS2 X0 hx hZ hown (host := "") (Or.inl (tw_0 hw)) Via.refl e0 f1 (g := (mkF m 0 #[.val (.int p0), .unset, .unset, .unset, .unset, .unset, .unset] [])) rfl (hb hby at_0)
  -- pc 4: com/example/orderweft/orderweft/rules/Criterion$Comparison.accepts
  obtain ⟨cq2, kq2, q2a, q2b, q2c⟩ := isOf hZ e1 f3
  obtain ⟨_, _, ⟨T2, L2, k2, n2⟩, -, X2, ⟨Lc2, hQ2, l2, y2, z2⟩, st2⟩ := X1.virtualBack hx (y := M_2) (z := M_2) hown (mvT hZ (tw_3 hw)) (mvT hZ (tw_4 hw)) (notFace_of_selects (args := #[]) (mvT hZ (tw_6 hw))) (mvT hZ (tw_6 hw)) (mvT hZ (tw_5 hw)) (by decide) (backOf (W := 0) (rm1_32 l Z a0 hw [] a_LESS p0 h0 n0 Z0 f2 f3 f4) hZ (tw_7 hw) (tw_1 hw) (by decide) (by decide)) q2a q2c (g := (mkF m 4 #[.val (.int p0), .unset, .unset, .unset, .unset, .unset, .unset] [(.int p0), (.ref a_LESS)])) rfl (by rw [hml]; rfl) (Steps.refl _) (argsL := [(.int p0)]) (rest := []) (lenOf pd_1 rfl) rfl (by show 2 * 0 + _ ≤ _; exact Nat.le_of_eq rfl) (hb hby at_4) (fun _ _ => ⟨rfl, e1, (by decide : 0 + 0 ≤ _), (by decide : 0 + 0 ≤ _)⟩)
  dsimp only [Pt.U, Pt.locs, Pt.cells, Pt.slots] at X2 l2 y2 z2 st2 hQ2
  subst l2 y2 z2
  obtain ⟨rfl, Nq2, e2⟩ := hQ2
  have N2 := Fr.app N0 Nq2
  obtain ⟨T3, X3, e3, st3⟩ := getS2 X2 hx hZ hown (host := "") (Or.inl (tw_17 hw)) Via.refl e2 f5 (g := (mkF m 8 #[.val (.int p0), .val (.int 0), .unset, .unset, .unset, .unset, .unset] [])) rfl (hb hby at_8)
  -- pc 12: com/example/orderweft/orderweft/rules/Criterion$Comparison.accepts
  obtain ⟨cq4, kq4, q4a, q4b, q4c⟩ := isOf hZ e3 f7
  obtain ⟨_, _, ⟨T4, L4, k4, n4⟩, -, X4, ⟨Lc4, hQ4, l4, y4, z4⟩, st4⟩ := X3.virtualBack hx (y := M_2) (z := M_2) hown (mvT hZ (tw_3 hw)) (mvT hZ (tw_4 hw)) (notFace_of_selects (args := #[]) (mvT hZ (tw_6 hw))) (mvT hZ (tw_6 hw)) (mvT hZ (tw_5 hw)) (by decide) (backOf (W := 0) (rm1_22 l Z a0 hw [] a_AT_MOST p0 h0 n0 Z0 f6 f7 f8) hZ (tw_7 hw) (tw_1 hw) (by decide) (by decide)) q4a q4c (g := (mkF m 12 #[.val (.int p0), .val (.int 0), .unset, .unset, .unset, .unset, .unset] [(.int p0), (.ref a_AT_MOST)])) rfl (by rw [hml]; rfl) (Steps.refl _) (argsL := [(.int p0)]) (rest := []) (lenOf pd_1 rfl) rfl (by show 2 * 0 + _ ≤ _; exact Nat.le_of_eq rfl) (hb hby at_12) (fun _ _ => ⟨rfl, e3, (by decide : 0 + 0 ≤ _), (by decide : 0 + 0 ≤ _)⟩)
  dsimp only [Pt.U, Pt.locs, Pt.cells, Pt.slots] at X4 l4 y4 z4 st4 hQ4
  subst l4 y4 z4
  obtain ⟨rfl, Nq4, e4⟩ := hQ4
  have N4 := Fr.app N2 Nq4
  obtain ⟨T5, X5, e5, st5⟩ := getS2 X4 hx hZ hown (host := "") (Or.inl (tw_19 hw)) Via.refl e4 f9 (g := (mkF m 16 #[.val (.int p0), .val (.int 0), .val (.int 1), .unset, .unset, .unset, .unset] [])) rfl (hb hby at_16)
  -- pc 20: com/example/orderweft/orderweft/rules/Criterion$Comparison.accepts
  obtain ⟨cq6, kq6, q6a, q6b, q6c⟩ := isOf hZ e5 f11
  obtain ⟨_, _, ⟨T6, L6, k6, n6⟩, -, X6, ⟨Lc6, hQ6, l6, y6, z6⟩, st6⟩ := X5.virtualBack hx (y := M_2) (z := M_2) hown (mvT hZ (tw_3 hw)) (mvT hZ (tw_4 hw)) (notFace_of_selects (args := #[]) (mvT hZ (tw_6 hw))) (mvT hZ (tw_6 hw)) (mvT hZ (tw_5 hw)) (by decide) (backOf (W := 0) (rm1_33 l Z a0 hw [] a_EQUAL p0 h0 n0 Z0 f10 f11 f12) hZ (tw_7 hw) (tw_1 hw) (by decide) (by decide)) q6a q6c (g := (mkF m 20 #[.val (.int p0), .val (.int 0), .val (.int 1), .unset, .unset, .unset, .unset] [(.int p0), (.ref a_EQUAL)])) rfl (by rw [hml]; rfl) (Steps.refl _) (argsL := [(.int p0)]) (rest := []) (lenOf pd_1 rfl) rfl (by show 2 * 0 + _ ≤ _; exact Nat.le_of_eq rfl) (hb hby at_20) (fun _ _ => ⟨rfl, e5, (by decide : 0 + 0 ≤ _), (by decide : 0 + 0 ≤ _)⟩)
  dsimp only [Pt.U, Pt.locs, Pt.cells, Pt.slots] at X6 l6 y6 z6 st6 hQ6
  subst l6 y6 z6
  obtain ⟨rfl, Nq6, e6⟩ := hQ6
  have N6 := Fr.app N4 Nq6
  obtain ⟨T7, X7, e7, st7⟩ := getS2 X6 hx hZ hown (host := "") (Or.inl (tw_21 hw)) Via.refl e6 f13 (g := (mkF m 24 #[.val (.int p0), .val (.int 0), .val (.int 1), .val (.int 1), .unset, .unset, .unset] [])) rfl (hb hby at_24)
  -- pc 28: com/example/orderweft/orderweft/rules/Criterion$Comparison.accepts
  obtain ⟨cq8, kq8, q8a, q8b, q8c⟩ := isOf hZ e7 f15
  obtain ⟨_, _, ⟨T8, L8, k8, n8⟩, -, X8, ⟨Lc8, hQ8, l8, y8, z8⟩, st8⟩ := X7.virtualBack hx (y := M_2) (z := M_2) hown (mvT hZ (tw_3 hw)) (mvT hZ (tw_4 hw)) (notFace_of_selects (args := #[]) (mvT hZ (tw_6 hw))) (mvT hZ (tw_6 hw)) (mvT hZ (tw_5 hw)) (by decide) (backOf (W := 0) (rm1_34 l Z a0 hw [] a_AT_LEAST p0 h0 n0 Z0 f14 f15 f4) hZ (tw_7 hw) (tw_1 hw) (by decide) (by decide)) q8a q8c (g := (mkF m 28 #[.val (.int p0), .val (.int 0), .val (.int 1), .val (.int 1), .unset, .unset, .unset] [(.int p0), (.ref a_AT_LEAST)])) rfl (by rw [hml]; rfl) (Steps.refl _) (argsL := [(.int p0)]) (rest := []) (lenOf pd_1 rfl) rfl (by show 2 * 0 + _ ≤ _; exact Nat.le_of_eq rfl) (hb hby at_28) (fun _ _ => ⟨rfl, e7, (by decide : 0 + 0 ≤ _), (by decide : 0 + 0 ≤ _)⟩)
  dsimp only [Pt.U, Pt.locs, Pt.cells, Pt.slots] at X8 l8 y8 z8 st8 hQ8
  subst l8 y8 z8
  obtain ⟨rfl, Nq8, e8⟩ := hQ8
  have N8 := Fr.app N6 Nq8
  obtain ⟨T9, X9, e9, st9⟩ := getS2 X8 hx hZ hown (host := "") (Or.inl (tw_23 hw)) Via.refl e8 f16 (g := (mkF m 33 #[.val (.int p0), .val (.int 0), .val (.int 1), .val (.int 1), .val (.int 1), .unset, .unset] [])) rfl (hb hby at_33)
  -- pc 37: com/example/orderweft/orderweft/rules/Criterion$Comparison.accepts
  obtain ⟨cq10, kq10, q10a, q10b, q10c⟩ := isOf hZ e9 f18
  obtain ⟨_, _, ⟨T10, L10, k10, n10⟩, -, X10, ⟨Lc10, hQ10, l10, y10, z10⟩, st10⟩ := X9.virtualBack hx (y := M_2) (z := M_2) hown (mvT hZ (tw_3 hw)) (mvT hZ (tw_4 hw)) (notFace_of_selects (args := #[]) (mvT hZ (tw_6 hw))) (mvT hZ (tw_6 hw)) (mvT hZ (tw_5 hw)) (by decide) (backOf (W := 0) (rm1_28 l Z a0 hw [] a_GREATER p0 h0 n0 Z0 f17 f18 f8) hZ (tw_7 hw) (tw_1 hw) (by decide) (by decide)) q10a q10c (g := (mkF m 37 #[.val (.int p0), .val (.int 0), .val (.int 1), .val (.int 1), .val (.int 1), .unset, .unset] [(.int p0), (.ref a_GREATER)])) rfl (by rw [hml]; rfl) (Steps.refl _) (argsL := [(.int p0)]) (rest := []) (lenOf pd_1 rfl) rfl (by show 2 * 0 + _ ≤ _; exact Nat.le_of_eq rfl) (hb hby at_37) (fun _ _ => ⟨rfl, e9, (by decide : 0 + 0 ≤ _), (by decide : 0 + 0 ≤ _)⟩)
  dsimp only [Pt.U, Pt.locs, Pt.cells, Pt.slots] at X10 l10 y10 z10 st10 hQ10
  subst l10 y10 z10
  obtain ⟨rfl, Nq10, e10⟩ := hQ10
  have N10 := Fr.app N8 Nq10
  -- pc 43: com/example/orderweft/orderweft/rules/ComparisonAcceptsPinLaw.one
  obtain ⟨_, _, ⟨T11, L11, k11, n11⟩, -, X11, ⟨Lc11, hQ11, l11, y11, z11⟩, st11⟩ := Jvm.LawKit.callS X10 hx (y := M_3) hown (mvT hZ (tw_25 hw)) (mvT hZ (tw_26 hw)) (mvT hZ (tw_27 hw)) (mvT hZ (tw_28 hw)) (by decide) (backOf (W := 0) (rm3_30 l Z a0 hw []  h0 n0 Z0 ) hZ (tw_28 hw) (tw_27 hw) (by decide) (by decide)) (g := (mkF m 43 #[.val (.int p0), .val (.int 0), .val (.int 1), .val (.int 1), .val (.int 1), .val (.int 0), .unset] [(.int 0)])) rfl (by rw [hml]; rfl) (argsL := [(.int 0)]) (rest := []) (lenOf pd_2 rfl) rfl (by show 2 * 0 + _ ≤ _; exact Nat.le_of_eq rfl) (hb hby at_43) (fun _ _ => ⟨rfl, e10, (by decide : 0 + 0 ≤ _), (by decide : 0 + 0 ≤ _)⟩)
  dsimp only [Pt.U, Pt.locs, Pt.cells, Pt.slots] at X11 l11 y11 z11 st11 hQ11
  subst l11 y11 z11
  obtain ⟨rfl, Nq11, e11⟩ := hQ11
  have N11 := Fr.app N10 Nq11
  -- pc 47: com/example/orderweft/orderweft/rules/ComparisonAcceptsPinLaw.one
  obtain ⟨_, _, ⟨T12, L12, k12, n12⟩, -, X12, ⟨Lc12, hQ12, l12, y12, z12⟩, st12⟩ := Jvm.LawKit.callS X11 hx (y := M_3) hown (mvT hZ (tw_25 hw)) (mvT hZ (tw_26 hw)) (mvT hZ (tw_27 hw)) (mvT hZ (tw_28 hw)) (by decide) (backOf (W := 1) (rm3_29 l Z a0 hw []  h0 n0 Z0 ) hZ (tw_28 hw) (tw_27 hw) (by decide) (by decide)) (g := (mkF m 47 #[.val (.int p0), .val (.int 0), .val (.int 1), .val (.int 1), .val (.int 1), .val (.int 0), .unset] [(.int 1), (.int 0)])) rfl (by rw [hml]; rfl) (argsL := [(.int 1)]) (rest := [(.int 0)]) (lenOf pd_2 rfl) rfl (by show 2 * 0 + _ ≤ _; exact Nat.le_of_eq rfl) (hb hby at_47) (fun _ _ => ⟨rfl, e11, (by decide : 0 + 0 ≤ _), (by decide : 0 + 0 ≤ _)⟩)
  dsimp only [Pt.U, Pt.locs, Pt.cells, Pt.slots] at X12 l12 y12 z12 st12 hQ12
  subst l12 y12 z12
  obtain ⟨rfl, Nq12, e12⟩ := hQ12
  have N12 := Fr.app N11 Nq12
  -- pc 53: com/example/orderweft/orderweft/rules/ComparisonAcceptsPinLaw.one
  obtain ⟨_, _, ⟨T13, L13, k13, n13⟩, -, X13, ⟨Lc13, hQ13, l13, y13, z13⟩, st13⟩ := Jvm.LawKit.callS X12 hx (y := M_3) hown (mvT hZ (tw_25 hw)) (mvT hZ (tw_26 hw)) (mvT hZ (tw_27 hw)) (mvT hZ (tw_28 hw)) (by decide) (backOf (W := 1) (rm3_30 l Z a0 hw []  h0 n0 Z0 ) hZ (tw_28 hw) (tw_27 hw) (by decide) (by decide)) (g := (mkF m 53 #[.val (.int p0), .val (.int 0), .val (.int 1), .val (.int 1), .val (.int 1), .val (.int 0), .unset] [(.int 0), (.int 1)])) rfl (by rw [hml]; rfl) (argsL := [(.int 0)]) (rest := [(.int 1)]) (lenOf pd_2 rfl) rfl (by show 2 * 0 + _ ≤ _; exact Nat.le_of_eq rfl) (hb hby at_53) (fun _ _ => ⟨rfl, e12, (by decide : 0 + 0 ≤ _), (by decide : 0 + 0 ≤ _)⟩)
  dsimp only [Pt.U, Pt.locs, Pt.cells, Pt.slots] at X13 l13 y13 z13 st13 hQ13
  subst l13 y13 z13
  obtain ⟨rfl, Nq13, e13⟩ := hQ13
  have N13 := Fr.app N12 Nq13
  obtain ⟨fs, hr, hrun, hended, hW, hsame⟩ := X13.leave (v := (some (.int 1))) (fun h => by rw [Bd.returns] at h; cases h)
  refine ⟨_, _, castTop (ef0_I m p0) ?_, hrun, hended, _, _, rfl, ?_, ⟨_, rfl⟩, hW, hsame.mono (by decide) (by decide)⟩
  · show Steps p.tables e below (s₁.setTop (mkF m 0 #[.val (.int p0), .unset, .unset, .unset, .unset, .unset, .unset] [])) _
    refine st1 _ ?_
    refine XS.iloadN X1.here hx rfl (hb hby at_3) rfl ?_
    show Steps p.tables e below (T1.setTop (mkF m 4 #[.val (.int p0), .unset, .unset, .unset, .unset, .unset, .unset] [(.int p0), (.ref a_LESS)])) _
    refine st2.trans ?_
    refine XS.istoreN X2.here hx rfl (hb hby at_7) rfl (l' := #[.val (.int p0), .val (.int 0), .unset, .unset, .unset, .unset, .unset]) rfl ?_
    show Steps p.tables e below (T2.setTop (mkF m 8 #[.val (.int p0), .val (.int 0), .unset, .unset, .unset, .unset, .unset] [])) _
    refine st3 _ ?_
    refine XS.iloadN X3.here hx rfl (hb hby at_11) rfl ?_
    show Steps p.tables e below (T3.setTop (mkF m 12 #[.val (.int p0), .val (.int 0), .unset, .unset, .unset, .unset, .unset] [(.int p0), (.ref a_AT_MOST)])) _
    refine st4.trans ?_
    refine XS.istoreN X4.here hx rfl (hb hby at_15) rfl (l' := #[.val (.int p0), .val (.int 0), .val (.int 1), .unset, .unset, .unset, .unset]) rfl ?_
    show Steps p.tables e below (T4.setTop (mkF m 16 #[.val (.int p0), .val (.int 0), .val (.int 1), .unset, .unset, .unset, .unset] [])) _
    refine st5 _ ?_
    refine XS.iloadN X5.here hx rfl (hb hby at_19) rfl ?_
    show Steps p.tables e below (T5.setTop (mkF m 20 #[.val (.int p0), .val (.int 0), .val (.int 1), .unset, .unset, .unset, .unset] [(.int p0), (.ref a_EQUAL)])) _
    refine st6.trans ?_
    refine XS.istoreN X6.here hx rfl (hb hby at_23) rfl (l' := #[.val (.int p0), .val (.int 0), .val (.int 1), .val (.int 1), .unset, .unset, .unset]) rfl ?_
    show Steps p.tables e below (T6.setTop (mkF m 24 #[.val (.int p0), .val (.int 0), .val (.int 1), .val (.int 1), .unset, .unset, .unset] [])) _
    refine st7 _ ?_
    refine XS.iloadN X7.here hx rfl (hb hby at_27) rfl ?_
    show Steps p.tables e below (T7.setTop (mkF m 28 #[.val (.int p0), .val (.int 0), .val (.int 1), .val (.int 1), .unset, .unset, .unset] [(.int p0), (.ref a_AT_LEAST)])) _
    refine st8.trans ?_
    refine XS.istore X8.here hx rfl (hb hby at_31) rfl (l' := #[.val (.int p0), .val (.int 0), .val (.int 1), .val (.int 1), .val (.int 1), .unset, .unset]) rfl ?_
    show Steps p.tables e below (T8.setTop (mkF m 33 #[.val (.int p0), .val (.int 0), .val (.int 1), .val (.int 1), .val (.int 1), .unset, .unset] [])) _
    refine st9 _ ?_
    refine XS.iloadN X9.here hx rfl (hb hby at_36) rfl ?_
    show Steps p.tables e below (T9.setTop (mkF m 37 #[.val (.int p0), .val (.int 0), .val (.int 1), .val (.int 1), .val (.int 1), .unset, .unset] [(.int p0), (.ref a_GREATER)])) _
    refine st10.trans ?_
    refine XS.istore X10.here hx rfl (hb hby at_40) rfl (l' := #[.val (.int p0), .val (.int 0), .val (.int 1), .val (.int 1), .val (.int 1), .val (.int 0), .unset]) rfl ?_
    refine XS.iloadN X10.here hx rfl (hb hby at_42) rfl ?_
    show Steps p.tables e below (T10.setTop (mkF m 43 #[.val (.int p0), .val (.int 0), .val (.int 1), .val (.int 1), .val (.int 1), .val (.int 0), .unset] [(.int 0)])) _
    refine st11 _ ?_
    refine XS.iloadN X11.here hx rfl (hb hby at_46) rfl ?_
    show Steps p.tables e below (T11.setTop (mkF m 47 #[.val (.int p0), .val (.int 0), .val (.int 1), .val (.int 1), .val (.int 1), .val (.int 0), .unset] [(.int 1), (.int 0)])) _
    refine st12 _ ?_
    show Steps p.tables e below (T12.setTop (mkF m 50 #[.val (.int p0), .val (.int 0), .val (.int 1), .val (.int 1), .val (.int 1), .val (.int 0), .unset] [(.int 1), (.int 0)])) _
    refine XS.iadd X12.here hx rfl (hb hby at_50) rfl ?_
    show Steps p.tables e below (T12.setTop (mkF m 51 #[.val (.int p0), .val (.int 0), .val (.int 1), .val (.int 1), .val (.int 1), .val (.int 0), .unset] [(.int ((0 : Int32) + (1 : Int32)))])) _
    rw [show ((0 : Int32) + (1 : Int32)) = (1 : Int32) from by decide]
    refine XS.iload X12.here hx rfl (hb hby at_51) rfl ?_
    show Steps p.tables e below (T12.setTop (mkF m 53 #[.val (.int p0), .val (.int 0), .val (.int 1), .val (.int 1), .val (.int 1), .val (.int 0), .unset] [(.int 0), (.int 1)])) _
    refine st13 _ ?_
    show Steps p.tables e below (T13.setTop (mkF m 56 #[.val (.int p0), .val (.int 0), .val (.int 1), .val (.int 1), .val (.int 1), .val (.int 0), .unset] [(.int 0), (.int 1)])) _
    refine XS.iadd X13.here hx rfl (hb hby at_56) rfl ?_
    show Steps p.tables e below (T13.setTop (mkF m 57 #[.val (.int p0), .val (.int 0), .val (.int 1), .val (.int 1), .val (.int 1), .val (.int 0), .unset] [(.int ((1 : Int32) + (0 : Int32)))])) _
    rw [show ((1 : Int32) + (0 : Int32)) = (1 : Int32) from by decide]
    refine XS.iconst X13.here hx rfl (hb hby at_57) ?_
    refine XS.icmpNo X13.here hx rfl (hb hby at_58) rfl (by decide) ?_
    refine XS.iconst X13.here hx rfl (hb hby at_61) ?_
    refine XS.goto X13.here hx rfl (pc0 := 62) (pc' := 66) rfl (hb hby at_62) (by decide) (by decide) ?_
    show Steps p.tables e below (T13.setTop (mkF m 66 #[.val (.int p0), .val (.int 0), .val (.int 1), .val (.int 1), .val (.int 1), .val (.int 0), .unset] [(.int 1)])) _
    refine XS.istore X13.here hx rfl (hb hby at_66) rfl (l' := #[.val (.int p0), .val (.int 0), .val (.int 1), .val (.int 1), .val (.int 1), .val (.int 0), .val (.int 1)]) rfl ?_
    refine XS.iloadN X13.here hx rfl (hb hby at_68) rfl ?_
    refine XS.iloadN X13.here hx rfl (hb hby at_69) rfl ?_
    refine XS.ifYes X13.here hx rfl (pc0 := 70) (pc' := 77) rfl (hb hby at_70) rfl ((if0 _ _).trans (flt (f4 : ¬ (p0 < (0 : Int32)))).2.1) (by decide) (by decide) ?_
    refine XS.iconst X13.here hx rfl (hb hby at_77) ?_
    show Steps p.tables e below (T13.setTop (mkF m 78 #[.val (.int p0), .val (.int 0), .val (.int 1), .val (.int 1), .val (.int 1), .val (.int 0), .val (.int 1)] [(.int 0), (.int 0)])) _
    refine XS.icmpNo X13.here hx rfl (hb hby at_78) rfl (by decide) ?_
    refine XS.iload X13.here hx rfl (hb hby at_81) rfl ?_
    refine XS.iloadN X13.here hx rfl (hb hby at_83) rfl ?_
    refine XS.ifYes X13.here hx rfl (pc0 := 84) (pc' := 91) rfl (hb hby at_84) rfl ((if0 _ _).trans (flt (f8 : ¬ ((0 : Int32) < p0))).2.2.2) (by decide) (by decide) ?_
    refine XS.iconst X13.here hx rfl (hb hby at_91) ?_
    show Steps p.tables e below (T13.setTop (mkF m 92 #[.val (.int p0), .val (.int 0), .val (.int 1), .val (.int 1), .val (.int 1), .val (.int 0), .val (.int 1)] [(.int 0), (.int 0)])) _
    refine XS.icmpNo X13.here hx rfl (hb hby at_92) rfl (by decide) ?_
    refine XS.iload X13.here hx rfl (hb hby at_95) rfl ?_
    refine XS.ifNo X13.here hx rfl (hb hby at_97) rfl (by decide) ?_
    refine XS.iloadN X13.here hx rfl (hb hby at_100) rfl ?_
    refine XS.iloadN X13.here hx rfl (hb hby at_101) rfl ?_
    show Steps p.tables e below (T13.setTop (mkF m 102 #[.val (.int p0), .val (.int 0), .val (.int 1), .val (.int 1), .val (.int 1), .val (.int 0), .val (.int 1)] [(.int 0), (.int 1)])) _
    refine XS.ifNo X13.here hx rfl (hb hby at_102) rfl (by decide) ?_
    refine XS.iloadN X13.here hx rfl (hb hby at_105) rfl ?_
    refine XS.ifNo X13.here hx rfl (hb hby at_106) rfl (by decide) ?_
    refine XS.iconst X13.here hx rfl (hb hby at_109) ?_
    refine XS.goto X13.here hx rfl (pc0 := 110) (pc' := 114) rfl (hb hby at_110) (by decide) (by decide) ?_
    show Steps p.tables e below (T13.setTop (mkF m 114 #[.val (.int p0), .val (.int 0), .val (.int 1), .val (.int 1), .val (.int 1), .val (.int 0), .val (.int 1)] [(.int 1), (.int 1)])) _
    refine XS.icmpNo X13.here hx rfl (hb hby at_114) rfl (by decide) ?_
    refine XS.iload X13.here hx rfl (hb hby at_117) rfl ?_
    refine XS.iload X13.here hx rfl (hb hby at_119) rfl ?_
    refine XS.ifNo X13.here hx rfl (hb hby at_121) rfl (by decide) ?_
    refine XS.iloadN X13.here hx rfl (hb hby at_124) rfl ?_
    show Steps p.tables e below (T13.setTop (mkF m 125 #[.val (.int p0), .val (.int 0), .val (.int 1), .val (.int 1), .val (.int 1), .val (.int 0), .val (.int 1)] [(.int 1), (.int 1)])) _
    refine XS.ifNo X13.here hx rfl (hb hby at_125) rfl (by decide) ?_
    refine XS.iconst X13.here hx rfl (hb hby at_128) ?_
    refine XS.goto X13.here hx rfl (pc0 := 129) (pc' := 133) rfl (hb hby at_129) (by decide) (by decide) ?_
    refine XS.icmpNo X13.here hx rfl (hb hby at_133) rfl (by decide) ?_
    refine XS.iconst X13.here hx rfl (hb hby at_136) ?_
    show Steps p.tables e below (T13.setTop (mkF m 137 #[.val (.int p0), .val (.int 0), .val (.int 1), .val (.int 1), .val (.int 1), .val (.int 0), .val (.int 1)] [(.int 1)])) _
    refine XS.goto X13.here hx rfl (pc0 := 137) (pc' := 141) rfl (hb hby at_137) (by decide) (by decide) ?_
    show Steps p.tables e below (T13.setTop (mkF m 141 #[.val (.int p0), .val (.int 0), .val (.int 1), .val (.int 1), .val (.int 1), .val (.int 0), .val (.int 1)] [(.int 1)])) _
    exact retN X13 hx (t := .boolean) Bd.returns (by simp) (hb hby at_141) hr
  · show QT n0 _ T13.heap _
    rw [e13]
    exact ⟨rfl, N13⟩
theorem d1_70 : decode prog_61_method_4_code 70 = .ok (.iconst 0, 1) := by decide +kernel
theorem d1_71 : decode prog_61_method_4_code 71 = .ok (.goto 36, 3) := by decide +kernel
set_option maxRecDepth 65536 in
set_option maxHeartbeats 40000000 in
theorem rm1_36 (l : Launch) (Z : State) (a0 : Array Value) (hw : ∀ d ∈ tables_1, d.before a0 Z = true) (ws : List Jvm.Cond) (a_AT_MOST : Addr) (p0 : Int32) (h0 : Heap) (n0 : Nat) (Z0 : n0 ≤ h0.size) (f1 : F_0 Z h0 a_AT_MOST (.int 1)) (f2 : E_0 Z h0 a_AT_MOST) (f3 : (0 : Int32) < p0) :
    MetFree l M_2 (head1 (Jvm.Cond.code M_2 prog_61_method_4_code 2 (some .boolean) :: ws) R_1_0_0_12) (fun a U => a = #[(.ref a_AT_MOST), (.int p0)] ∧ Z.Warmed39 U.vm ∧ U.heap = h0) (fun _ _ _ _ _ => True) (fun _ U o U' => ∃ v L, o = .returned v ∧ QP (some (.int 0)) h0 n0 v U'.heap L ∧ FrameEnd U o U' L R_1_0_0_12.cells R_1_0_0_12.slots) := by
  refine MetFree.of_bodySF (plainFor_of_name pn_com_example_orderweft_orderweft_rules_Criterion_Comparison) hisR ?_
  intro p e s m args below meth c s₁ Bd hml0 hP hK
  obtain ⟨rfl, hZ, hh⟩ := hP
  have hx := Bd.exec
  have hby := Bd.bytes
  have hml : c.maxLocals = 2 := hml0
  have hown : s.vm.findClass "com/example/orderweft/orderweft/rules/Criterion$Comparison" = some m.cls := findClass_of_methodNamed Bd.named
  have hnm := (name_of_methodNamed Bd.named Bd.method).1
  have X0 : Stand p l e R_1_0_0_12 s m #[(.ref a_AT_MOST), (.int p0)] below meth c s₁ [] 0 0 := Stand.of_body Bd
  have e0 : s₁.heap = h0 := by rw [← hh, Bd.state]; rfl
  have N0 := Fr.nil n0
  -- pc 1: java/lang/Enum.ordinal
  obtain ⟨cq1, kq1, q1a, q1b, q1c⟩ := isOf hZ e0 f2
  obtain ⟨_, _, ⟨T1, L1, k1, n1⟩, -, X1, ⟨Lc1, hQ1, l1, y1, z1⟩, st1⟩ := X0.virtualBackUp hx (x := M_1) (y := M_0) (owner := "java/lang/Enum") hown (mvT hZ (tw_8 hw)) (mvT hZ (tw_9 hw)) (mvT hZ (tw_10 hw)) (by decide) (mvT hZ (tw_12 hw)) (mvT hZ (tw_11 hw)) (backOf (W := 0) (rm2_21 l Z a0 hw [] a_AT_MOST h0 n0 Z0 f1) hZ (tw_14 hw) (tw_13 hw) (by decide) (by decide)) q1a q1c (g := (mkF m 1 #[.val (.ref a_AT_MOST), .val (.int p0)] [(.ref a_AT_MOST)])) rfl (by rw [hml]; rfl) (Steps.refl _) (argsL := []) (rest := []) (lenOf pd_0 rfl) rfl (by show 2 * 0 + _ ≤ _; exact Nat.le_of_eq rfl) (hb hby d1_1) (fun _ _ => ⟨rfl, e0, (by decide : 0 + 0 ≤ _), (by decide : 0 + 0 ≤ _)⟩)
  dsimp only [Pt.U, Pt.locs, Pt.cells, Pt.slots] at X1 l1 y1 z1 st1 hQ1
  subst l1 y1 z1
  obtain ⟨rfl, Nq1, e1⟩ := hQ1
  have N1 := Fr.app N0 Nq1
  obtain ⟨fs, hr, hrun, hended, hW, hsame⟩ := X1.leave (v := (some (.int 0))) (fun h => by rw [Bd.returns] at h; cases h)
  refine ⟨_, _, castTop (ef1_RI m a_AT_MOST p0) ?_, hrun, hended, _, _, rfl, ?_, ⟨_, rfl⟩, hW, hsame.mono (by decide) (by decide)⟩
  · show Steps p.tables e below (s₁.setTop (mkF m 0 #[.val (.ref a_AT_MOST), .val (.int p0)] [])) _
    refine XS.aloadN X0.here hx rfl (hb hby d1_0) rfl rfl ?_
    show Steps p.tables e below (s₁.setTop (mkF m 1 #[.val (.ref a_AT_MOST), .val (.int p0)] [(.ref a_AT_MOST)])) _
    refine st1.trans ?_
    show Steps p.tables e below (T1.setTop (mkF m 4 #[.val (.ref a_AT_MOST), .val (.int p0)] [(.int 1)])) _
    refine XS.tswIn X1.here hx rfl (pc0 := 4) (pc' := 62) (o := 58) rfl (hb hby d1_4) rfl (by decide) (by decide) (by decide) (by decide) ?_
    refine XS.iloadN X1.here hx rfl (hb hby d1_62) rfl ?_
    refine XS.ifYes X1.here hx rfl (pc0 := 63) (pc' := 70) rfl (hb hby d1_63) rfl ((if0 _ _).trans (tlt (f3 : (0 : Int32) < p0)).2.2.1) (by decide) (by decide) ?_
    refine XS.iconst X1.here hx rfl (hb hby d1_70) ?_
    refine XS.goto X1.here hx rfl (pc0 := 71) (pc' := 107) rfl (hb hby d1_71) (by decide) (by decide) ?_
    show Steps p.tables e below (T1.setTop (mkF m 107 #[.val (.ref a_AT_MOST), .val (.int p0)] [(.int 0)])) _
    exact retN X1 hx (t := .boolean) Bd.returns (by simp) (hb hby d1_107) hr
  · show QP (some (.int 0)) h0 n0 _ T1.heap _
    rw [e1]
    exact ⟨rfl, N1, rfl⟩
theorem d1_102 : decode prog_61_method_4_code 102 = .ok (.iconst 1, 1) := by decide +kernel
theorem d1_103 : decode prog_61_method_4_code 103 = .ok (.goto 4, 3) := by decide +kernel
set_option maxRecDepth 65536 in
set_option maxHeartbeats 40000000 in
theorem rm1_37 (l : Launch) (Z : State) (a0 : Array Value) (hw : ∀ d ∈ tables_1, d.before a0 Z = true) (ws : List Jvm.Cond) (a_GREATER : Addr) (p0 : Int32) (h0 : Heap) (n0 : Nat) (Z0 : n0 ≤ h0.size) (f1 : F_0 Z h0 a_GREATER (.int 4)) (f2 : E_0 Z h0 a_GREATER) (f3 : (0 : Int32) < p0) :
    MetFree l M_2 (head1 (Jvm.Cond.code M_2 prog_61_method_4_code 2 (some .boolean) :: ws) R_1_0_0_12) (fun a U => a = #[(.ref a_GREATER), (.int p0)] ∧ Z.Warmed39 U.vm ∧ U.heap = h0) (fun _ _ _ _ _ => True) (fun _ U o U' => ∃ v L, o = .returned v ∧ QP (some (.int 1)) h0 n0 v U'.heap L ∧ FrameEnd U o U' L R_1_0_0_12.cells R_1_0_0_12.slots) := by
  refine MetFree.of_bodySF (plainFor_of_name pn_com_example_orderweft_orderweft_rules_Criterion_Comparison) hisR ?_
  intro p e s m args below meth c s₁ Bd hml0 hP hK
  obtain ⟨rfl, hZ, hh⟩ := hP
  have hx := Bd.exec
  have hby := Bd.bytes
  have hml : c.maxLocals = 2 := hml0
  have hown : s.vm.findClass "com/example/orderweft/orderweft/rules/Criterion$Comparison" = some m.cls := findClass_of_methodNamed Bd.named
  have hnm := (name_of_methodNamed Bd.named Bd.method).1
  have X0 : Stand p l e R_1_0_0_12 s m #[(.ref a_GREATER), (.int p0)] below meth c s₁ [] 0 0 := Stand.of_body Bd
  have e0 : s₁.heap = h0 := by rw [← hh, Bd.state]; rfl
  have N0 := Fr.nil n0
  -- pc 1: java/lang/Enum.ordinal
  obtain ⟨cq1, kq1, q1a, q1b, q1c⟩ := isOf hZ e0 f2
  obtain ⟨_, _, ⟨T1, L1, k1, n1⟩, -, X1, ⟨Lc1, hQ1, l1, y1, z1⟩, st1⟩ := X0.virtualBackUp hx (x := M_1) (y := M_0) (owner := "java/lang/Enum") hown (mvT hZ (tw_8 hw)) (mvT hZ (tw_9 hw)) (mvT hZ (tw_10 hw)) (by decide) (mvT hZ (tw_12 hw)) (mvT hZ (tw_11 hw)) (backOf (W := 0) (rm2_27 l Z a0 hw [] a_GREATER h0 n0 Z0 f1) hZ (tw_14 hw) (tw_13 hw) (by decide) (by decide)) q1a q1c (g := (mkF m 1 #[.val (.ref a_GREATER), .val (.int p0)] [(.ref a_GREATER)])) rfl (by rw [hml]; rfl) (Steps.refl _) (argsL := []) (rest := []) (lenOf pd_0 rfl) rfl (by show 2 * 0 + _ ≤ _; exact Nat.le_of_eq rfl) (hb hby d1_1) (fun _ _ => ⟨rfl, e0, (by decide : 0 + 0 ≤ _), (by decide : 0 + 0 ≤ _)⟩)
  dsimp only [Pt.U, Pt.locs, Pt.cells, Pt.slots] at X1 l1 y1 z1 st1 hQ1
  subst l1 y1 z1
  obtain ⟨rfl, Nq1, e1⟩ := hQ1
  have N1 := Fr.app N0 Nq1
  obtain ⟨fs, hr, hrun, hended, hW, hsame⟩ := X1.leave (v := (some (.int 1))) (fun h => by rw [Bd.returns] at h; cases h)
  refine ⟨_, _, castTop (ef1_RI m a_GREATER p0) ?_, hrun, hended, _, _, rfl, ?_, ⟨_, rfl⟩, hW, hsame.mono (by decide) (by decide)⟩
  · show Steps p.tables e below (s₁.setTop (mkF m 0 #[.val (.ref a_GREATER), .val (.int p0)] [])) _
    refine XS.aloadN X0.here hx rfl (hb hby d1_0) rfl rfl ?_
    show Steps p.tables e below (s₁.setTop (mkF m 1 #[.val (.ref a_GREATER), .val (.int p0)] [(.ref a_GREATER)])) _
    refine st1.trans ?_
    show Steps p.tables e below (T1.setTop (mkF m 4 #[.val (.ref a_GREATER), .val (.int p0)] [(.int 4)])) _
    refine XS.tswIn X1.here hx rfl (pc0 := 4) (pc' := 98) (o := 94) rfl (hb hby d1_4) rfl (by decide) (by decide) (by decide) (by decide) ?_
    refine XS.iloadN X1.here hx rfl (hb hby d1_98) rfl ?_
    refine XS.ifNo X1.here hx rfl (hb hby d1_99) rfl ((if0 _ _).trans (tlt (f3 : (0 : Int32) < p0)).2.2.2) ?_
    refine XS.iconst X1.here hx rfl (hb hby d1_102) ?_
    refine XS.goto X1.here hx rfl (pc0 := 103) (pc' := 107) rfl (hb hby d1_103) (by decide) (by decide) ?_
    show Steps p.tables e below (T1.setTop (mkF m 107 #[.val (.ref a_GREATER), .val (.int p0)] [(.int 1)])) _
    exact retN X1 hx (t := .boolean) Bd.returns (by simp) (hb hby d1_107) hr
  · show QP (some (.int 1)) h0 n0 _ T1.heap _
    rw [e1]
    exact ⟨rfl, N1, rfl⟩
set_option maxRecDepth 65536 in
set_option maxHeartbeats 40000000 in
theorem rm0_38 (l : Launch) (Z : State) (a0 : Array Value) (hw : ∀ d ∈ tables_1, d.before a0 Z = true) (ws : List Jvm.Cond) (p0 : Int32) (a_LESS : Addr) (a_AT_MOST : Addr) (a_EQUAL : Addr) (a_AT_LEAST : Addr) (a_GREATER : Addr) (h0 : Heap) (n0 : Nat) (Z0 : n0 ≤ h0.size) (f1 : S_0 Z h0 (.ref a_LESS)) (f2 : F_0 Z h0 a_LESS (.int 0)) (f3 : E_0 Z h0 a_LESS) (f4 : ¬ (p0 < (0 : Int32))) (f5 : S_1 Z h0 (.ref a_AT_MOST)) (f6 : F_0 Z h0 a_AT_MOST (.int 1)) (f7 : E_0 Z h0 a_AT_MOST) (f8 : (0 : Int32) < p0) (f9 : S_2 Z h0 (.ref a_EQUAL)) (f10 : F_0 Z h0 a_EQUAL (.int 2)) (f11 : E_0 Z h0 a_EQUAL) (f12 : ¬ (p0 = (0 : Int32))) (f13 : S_3 Z h0 (.ref a_AT_LEAST)) (f14 : F_0 Z h0 a_AT_LEAST (.int 3)) (f15 : E_0 Z h0 a_AT_LEAST) (f16 : S_4 Z h0 (.ref a_GREATER)) (f17 : F_0 Z h0 a_GREATER (.int 4)) (f18 : E_0 Z h0 a_GREATER) :
    MetFree l x (head1 (Jvm.Cond.code x code maxLocals ret :: ws) room_1) (fun a U => a = #[(.int p0)] ∧ Z.Warmed39 U.vm ∧ U.heap = h0) (fun _ _ _ _ _ => True) (fun _ U o U' => ∃ v L, o = .returned v ∧ QT n0 v U'.heap L ∧ FrameEnd U o U' L room_1.cells room_1.slots) := by
  refine MetFree.of_bodySF (plainFor_of_name pn_com_example_orderweft_orderweft_rules_ComparisonAcceptsPinLaw) hisR ?_
  intro p e s m args below meth c s₁ Bd hml0 hP hK
  obtain ⟨rfl, hZ, hh⟩ := hP
  have hx := Bd.exec
  have hby := Bd.bytes
  have hml : c.maxLocals = 7 := hml0
  have hown : s.vm.findClass "com/example/orderweft/orderweft/rules/ComparisonAcceptsPinLaw" = some m.cls := findClass_of_methodNamed Bd.named
  have hnm := (name_of_methodNamed Bd.named Bd.method).1
  have X0 : Stand p l e room_1 s m #[(.int p0)] below meth c s₁ [] 0 0 := Stand.of_body Bd
  have e0 : s₁.heap = h0 := by rw [← hh, Bd.state]; rfl
  have N0 := Fr.nil n0
  obtain ⟨T1, X1, e1, st1⟩ := getS2 X0 hx hZ hown (host := "") (Or.inl (tw_0 hw)) Via.refl e0 f1 (g := (mkF m 0 #[.val (.int p0), .unset, .unset, .unset, .unset, .unset, .unset] [])) rfl (hb hby at_0)
  -- pc 4: com/example/orderweft/orderweft/rules/Criterion$Comparison.accepts
  obtain ⟨cq2, kq2, q2a, q2b, q2c⟩ := isOf hZ e1 f3
  obtain ⟨_, _, ⟨T2, L2, k2, n2⟩, -, X2, ⟨Lc2, hQ2, l2, y2, z2⟩, st2⟩ := X1.virtualBack hx (y := M_2) (z := M_2) hown (mvT hZ (tw_3 hw)) (mvT hZ (tw_4 hw)) (notFace_of_selects (args := #[]) (mvT hZ (tw_6 hw))) (mvT hZ (tw_6 hw)) (mvT hZ (tw_5 hw)) (by decide) (backOf (W := 0) (rm1_32 l Z a0 hw [] a_LESS p0 h0 n0 Z0 f2 f3 f4) hZ (tw_7 hw) (tw_1 hw) (by decide) (by decide)) q2a q2c (g := (mkF m 4 #[.val (.int p0), .unset, .unset, .unset, .unset, .unset, .unset] [(.int p0), (.ref a_LESS)])) rfl (by rw [hml]; rfl) (Steps.refl _) (argsL := [(.int p0)]) (rest := []) (lenOf pd_1 rfl) rfl (by show 2 * 0 + _ ≤ _; exact Nat.le_of_eq rfl) (hb hby at_4) (fun _ _ => ⟨rfl, e1, (by decide : 0 + 0 ≤ _), (by decide : 0 + 0 ≤ _)⟩)
  dsimp only [Pt.U, Pt.locs, Pt.cells, Pt.slots] at X2 l2 y2 z2 st2 hQ2
  subst l2 y2 z2
  obtain ⟨rfl, Nq2, e2⟩ := hQ2
  have N2 := Fr.app N0 Nq2
  obtain ⟨T3, X3, e3, st3⟩ := getS2 X2 hx hZ hown (host := "") (Or.inl (tw_17 hw)) Via.refl e2 f5 (g := (mkF m 8 #[.val (.int p0), .val (.int 0), .unset, .unset, .unset, .unset, .unset] [])) rfl (hb hby at_8)
  -- pc 12: com/example/orderweft/orderweft/rules/Criterion$Comparison.accepts
  obtain ⟨cq4, kq4, q4a, q4b, q4c⟩ := isOf hZ e3 f7
  obtain ⟨_, _, ⟨T4, L4, k4, n4⟩, -, X4, ⟨Lc4, hQ4, l4, y4, z4⟩, st4⟩ := X3.virtualBack hx (y := M_2) (z := M_2) hown (mvT hZ (tw_3 hw)) (mvT hZ (tw_4 hw)) (notFace_of_selects (args := #[]) (mvT hZ (tw_6 hw))) (mvT hZ (tw_6 hw)) (mvT hZ (tw_5 hw)) (by decide) (backOf (W := 0) (rm1_36 l Z a0 hw [] a_AT_MOST p0 h0 n0 Z0 f6 f7 f8) hZ (tw_7 hw) (tw_1 hw) (by decide) (by decide)) q4a q4c (g := (mkF m 12 #[.val (.int p0), .val (.int 0), .unset, .unset, .unset, .unset, .unset] [(.int p0), (.ref a_AT_MOST)])) rfl (by rw [hml]; rfl) (Steps.refl _) (argsL := [(.int p0)]) (rest := []) (lenOf pd_1 rfl) rfl (by show 2 * 0 + _ ≤ _; exact Nat.le_of_eq rfl) (hb hby at_12) (fun _ _ => ⟨rfl, e3, (by decide : 0 + 0 ≤ _), (by decide : 0 + 0 ≤ _)⟩)
  dsimp only [Pt.U, Pt.locs, Pt.cells, Pt.slots] at X4 l4 y4 z4 st4 hQ4
  subst l4 y4 z4
  obtain ⟨rfl, Nq4, e4⟩ := hQ4
  have N4 := Fr.app N2 Nq4
  obtain ⟨T5, X5, e5, st5⟩ := getS2 X4 hx hZ hown (host := "") (Or.inl (tw_19 hw)) Via.refl e4 f9 (g := (mkF m 16 #[.val (.int p0), .val (.int 0), .val (.int 0), .unset, .unset, .unset, .unset] [])) rfl (hb hby at_16)
  -- pc 20: com/example/orderweft/orderweft/rules/Criterion$Comparison.accepts
  obtain ⟨cq6, kq6, q6a, q6b, q6c⟩ := isOf hZ e5 f11
  obtain ⟨_, _, ⟨T6, L6, k6, n6⟩, -, X6, ⟨Lc6, hQ6, l6, y6, z6⟩, st6⟩ := X5.virtualBack hx (y := M_2) (z := M_2) hown (mvT hZ (tw_3 hw)) (mvT hZ (tw_4 hw)) (notFace_of_selects (args := #[]) (mvT hZ (tw_6 hw))) (mvT hZ (tw_6 hw)) (mvT hZ (tw_5 hw)) (by decide) (backOf (W := 0) (rm1_24 l Z a0 hw [] a_EQUAL p0 h0 n0 Z0 f10 f11 f12) hZ (tw_7 hw) (tw_1 hw) (by decide) (by decide)) q6a q6c (g := (mkF m 20 #[.val (.int p0), .val (.int 0), .val (.int 0), .unset, .unset, .unset, .unset] [(.int p0), (.ref a_EQUAL)])) rfl (by rw [hml]; rfl) (Steps.refl _) (argsL := [(.int p0)]) (rest := []) (lenOf pd_1 rfl) rfl (by show 2 * 0 + _ ≤ _; exact Nat.le_of_eq rfl) (hb hby at_20) (fun _ _ => ⟨rfl, e5, (by decide : 0 + 0 ≤ _), (by decide : 0 + 0 ≤ _)⟩)
  dsimp only [Pt.U, Pt.locs, Pt.cells, Pt.slots] at X6 l6 y6 z6 st6 hQ6
  subst l6 y6 z6
  obtain ⟨rfl, Nq6, e6⟩ := hQ6
  have N6 := Fr.app N4 Nq6
  obtain ⟨T7, X7, e7, st7⟩ := getS2 X6 hx hZ hown (host := "") (Or.inl (tw_21 hw)) Via.refl e6 f13 (g := (mkF m 24 #[.val (.int p0), .val (.int 0), .val (.int 0), .val (.int 0), .unset, .unset, .unset] [])) rfl (hb hby at_24)
  -- pc 28: com/example/orderweft/orderweft/rules/Criterion$Comparison.accepts
  obtain ⟨cq8, kq8, q8a, q8b, q8c⟩ := isOf hZ e7 f15
  obtain ⟨_, _, ⟨T8, L8, k8, n8⟩, -, X8, ⟨Lc8, hQ8, l8, y8, z8⟩, st8⟩ := X7.virtualBack hx (y := M_2) (z := M_2) hown (mvT hZ (tw_3 hw)) (mvT hZ (tw_4 hw)) (notFace_of_selects (args := #[]) (mvT hZ (tw_6 hw))) (mvT hZ (tw_6 hw)) (mvT hZ (tw_5 hw)) (by decide) (backOf (W := 0) (rm1_34 l Z a0 hw [] a_AT_LEAST p0 h0 n0 Z0 f14 f15 f4) hZ (tw_7 hw) (tw_1 hw) (by decide) (by decide)) q8a q8c (g := (mkF m 28 #[.val (.int p0), .val (.int 0), .val (.int 0), .val (.int 0), .unset, .unset, .unset] [(.int p0), (.ref a_AT_LEAST)])) rfl (by rw [hml]; rfl) (Steps.refl _) (argsL := [(.int p0)]) (rest := []) (lenOf pd_1 rfl) rfl (by show 2 * 0 + _ ≤ _; exact Nat.le_of_eq rfl) (hb hby at_28) (fun _ _ => ⟨rfl, e7, (by decide : 0 + 0 ≤ _), (by decide : 0 + 0 ≤ _)⟩)
  dsimp only [Pt.U, Pt.locs, Pt.cells, Pt.slots] at X8 l8 y8 z8 st8 hQ8
  subst l8 y8 z8
  obtain ⟨rfl, Nq8, e8⟩ := hQ8
  have N8 := Fr.app N6 Nq8
  obtain ⟨T9, X9, e9, st9⟩ := getS2 X8 hx hZ hown (host := "") (Or.inl (tw_23 hw)) Via.refl e8 f16 (g := (mkF m 33 #[.val (.int p0), .val (.int 0), .val (.int 0), .val (.int 0), .val (.int 1), .unset, .unset] [])) rfl (hb hby at_33)
  -- pc 37: com/example/orderweft/orderweft/rules/Criterion$Comparison.accepts
  obtain ⟨cq10, kq10, q10a, q10b, q10c⟩ := isOf hZ e9 f18
  obtain ⟨_, _, ⟨T10, L10, k10, n10⟩, -, X10, ⟨Lc10, hQ10, l10, y10, z10⟩, st10⟩ := X9.virtualBack hx (y := M_2) (z := M_2) hown (mvT hZ (tw_3 hw)) (mvT hZ (tw_4 hw)) (notFace_of_selects (args := #[]) (mvT hZ (tw_6 hw))) (mvT hZ (tw_6 hw)) (mvT hZ (tw_5 hw)) (by decide) (backOf (W := 0) (rm1_37 l Z a0 hw [] a_GREATER p0 h0 n0 Z0 f17 f18 f8) hZ (tw_7 hw) (tw_1 hw) (by decide) (by decide)) q10a q10c (g := (mkF m 37 #[.val (.int p0), .val (.int 0), .val (.int 0), .val (.int 0), .val (.int 1), .unset, .unset] [(.int p0), (.ref a_GREATER)])) rfl (by rw [hml]; rfl) (Steps.refl _) (argsL := [(.int p0)]) (rest := []) (lenOf pd_1 rfl) rfl (by show 2 * 0 + _ ≤ _; exact Nat.le_of_eq rfl) (hb hby at_37) (fun _ _ => ⟨rfl, e9, (by decide : 0 + 0 ≤ _), (by decide : 0 + 0 ≤ _)⟩)
  dsimp only [Pt.U, Pt.locs, Pt.cells, Pt.slots] at X10 l10 y10 z10 st10 hQ10
  subst l10 y10 z10
  obtain ⟨rfl, Nq10, e10⟩ := hQ10
  have N10 := Fr.app N8 Nq10
  -- pc 43: com/example/orderweft/orderweft/rules/ComparisonAcceptsPinLaw.one
  obtain ⟨_, _, ⟨T11, L11, k11, n11⟩, -, X11, ⟨Lc11, hQ11, l11, y11, z11⟩, st11⟩ := Jvm.LawKit.callS X10 hx (y := M_3) hown (mvT hZ (tw_25 hw)) (mvT hZ (tw_26 hw)) (mvT hZ (tw_27 hw)) (mvT hZ (tw_28 hw)) (by decide) (backOf (W := 0) (rm3_30 l Z a0 hw []  h0 n0 Z0 ) hZ (tw_28 hw) (tw_27 hw) (by decide) (by decide)) (g := (mkF m 43 #[.val (.int p0), .val (.int 0), .val (.int 0), .val (.int 0), .val (.int 1), .val (.int 1), .unset] [(.int 0)])) rfl (by rw [hml]; rfl) (argsL := [(.int 0)]) (rest := []) (lenOf pd_2 rfl) rfl (by show 2 * 0 + _ ≤ _; exact Nat.le_of_eq rfl) (hb hby at_43) (fun _ _ => ⟨rfl, e10, (by decide : 0 + 0 ≤ _), (by decide : 0 + 0 ≤ _)⟩)
  dsimp only [Pt.U, Pt.locs, Pt.cells, Pt.slots] at X11 l11 y11 z11 st11 hQ11
  subst l11 y11 z11
  obtain ⟨rfl, Nq11, e11⟩ := hQ11
  have N11 := Fr.app N10 Nq11
  -- pc 47: com/example/orderweft/orderweft/rules/ComparisonAcceptsPinLaw.one
  obtain ⟨_, _, ⟨T12, L12, k12, n12⟩, -, X12, ⟨Lc12, hQ12, l12, y12, z12⟩, st12⟩ := Jvm.LawKit.callS X11 hx (y := M_3) hown (mvT hZ (tw_25 hw)) (mvT hZ (tw_26 hw)) (mvT hZ (tw_27 hw)) (mvT hZ (tw_28 hw)) (by decide) (backOf (W := 1) (rm3_30 l Z a0 hw []  h0 n0 Z0 ) hZ (tw_28 hw) (tw_27 hw) (by decide) (by decide)) (g := (mkF m 47 #[.val (.int p0), .val (.int 0), .val (.int 0), .val (.int 0), .val (.int 1), .val (.int 1), .unset] [(.int 0), (.int 0)])) rfl (by rw [hml]; rfl) (argsL := [(.int 0)]) (rest := [(.int 0)]) (lenOf pd_2 rfl) rfl (by show 2 * 0 + _ ≤ _; exact Nat.le_of_eq rfl) (hb hby at_47) (fun _ _ => ⟨rfl, e11, (by decide : 0 + 0 ≤ _), (by decide : 0 + 0 ≤ _)⟩)
  dsimp only [Pt.U, Pt.locs, Pt.cells, Pt.slots] at X12 l12 y12 z12 st12 hQ12
  subst l12 y12 z12
  obtain ⟨rfl, Nq12, e12⟩ := hQ12
  have N12 := Fr.app N11 Nq12
  -- pc 53: com/example/orderweft/orderweft/rules/ComparisonAcceptsPinLaw.one
  obtain ⟨_, _, ⟨T13, L13, k13, n13⟩, -, X13, ⟨Lc13, hQ13, l13, y13, z13⟩, st13⟩ := Jvm.LawKit.callS X12 hx (y := M_3) hown (mvT hZ (tw_25 hw)) (mvT hZ (tw_26 hw)) (mvT hZ (tw_27 hw)) (mvT hZ (tw_28 hw)) (by decide) (backOf (W := 1) (rm3_29 l Z a0 hw []  h0 n0 Z0 ) hZ (tw_28 hw) (tw_27 hw) (by decide) (by decide)) (g := (mkF m 53 #[.val (.int p0), .val (.int 0), .val (.int 0), .val (.int 0), .val (.int 1), .val (.int 1), .unset] [(.int 1), (.int 0)])) rfl (by rw [hml]; rfl) (argsL := [(.int 1)]) (rest := [(.int 0)]) (lenOf pd_2 rfl) rfl (by show 2 * 0 + _ ≤ _; exact Nat.le_of_eq rfl) (hb hby at_53) (fun _ _ => ⟨rfl, e12, (by decide : 0 + 0 ≤ _), (by decide : 0 + 0 ≤ _)⟩)
  dsimp only [Pt.U, Pt.locs, Pt.cells, Pt.slots] at X13 l13 y13 z13 st13 hQ13
  subst l13 y13 z13
  obtain ⟨rfl, Nq13, e13⟩ := hQ13
  have N13 := Fr.app N12 Nq13
  obtain ⟨fs, hr, hrun, hended, hW, hsame⟩ := X13.leave (v := (some (.int 1))) (fun h => by rw [Bd.returns] at h; cases h)
  refine ⟨_, _, castTop (ef0_I m p0) ?_, hrun, hended, _, _, rfl, ?_, ⟨_, rfl⟩, hW, hsame.mono (by decide) (by decide)⟩
  · show Steps p.tables e below (s₁.setTop (mkF m 0 #[.val (.int p0), .unset, .unset, .unset, .unset, .unset, .unset] [])) _
    refine st1 _ ?_
    refine XS.iloadN X1.here hx rfl (hb hby at_3) rfl ?_
    show Steps p.tables e below (T1.setTop (mkF m 4 #[.val (.int p0), .unset, .unset, .unset, .unset, .unset, .unset] [(.int p0), (.ref a_LESS)])) _
    refine st2.trans ?_
    refine XS.istoreN X2.here hx rfl (hb hby at_7) rfl (l' := #[.val (.int p0), .val (.int 0), .unset, .unset, .unset, .unset, .unset]) rfl ?_
    show Steps p.tables e below (T2.setTop (mkF m 8 #[.val (.int p0), .val (.int 0), .unset, .unset, .unset, .unset, .unset] [])) _
    refine st3 _ ?_
    refine XS.iloadN X3.here hx rfl (hb hby at_11) rfl ?_
    show Steps p.tables e below (T3.setTop (mkF m 12 #[.val (.int p0), .val (.int 0), .unset, .unset, .unset, .unset, .unset] [(.int p0), (.ref a_AT_MOST)])) _
    refine st4.trans ?_
    refine XS.istoreN X4.here hx rfl (hb hby at_15) rfl (l' := #[.val (.int p0), .val (.int 0), .val (.int 0), .unset, .unset, .unset, .unset]) rfl ?_
    show Steps p.tables e below (T4.setTop (mkF m 16 #[.val (.int p0), .val (.int 0), .val (.int 0), .unset, .unset, .unset, .unset] [])) _
    refine st5 _ ?_
    refine XS.iloadN X5.here hx rfl (hb hby at_19) rfl ?_
    show Steps p.tables e below (T5.setTop (mkF m 20 #[.val (.int p0), .val (.int 0), .val (.int 0), .unset, .unset, .unset, .unset] [(.int p0), (.ref a_EQUAL)])) _
    refine st6.trans ?_
    refine XS.istoreN X6.here hx rfl (hb hby at_23) rfl (l' := #[.val (.int p0), .val (.int 0), .val (.int 0), .val (.int 0), .unset, .unset, .unset]) rfl ?_
    show Steps p.tables e below (T6.setTop (mkF m 24 #[.val (.int p0), .val (.int 0), .val (.int 0), .val (.int 0), .unset, .unset, .unset] [])) _
    refine st7 _ ?_
    refine XS.iloadN X7.here hx rfl (hb hby at_27) rfl ?_
    show Steps p.tables e below (T7.setTop (mkF m 28 #[.val (.int p0), .val (.int 0), .val (.int 0), .val (.int 0), .unset, .unset, .unset] [(.int p0), (.ref a_AT_LEAST)])) _
    refine st8.trans ?_
    refine XS.istore X8.here hx rfl (hb hby at_31) rfl (l' := #[.val (.int p0), .val (.int 0), .val (.int 0), .val (.int 0), .val (.int 1), .unset, .unset]) rfl ?_
    show Steps p.tables e below (T8.setTop (mkF m 33 #[.val (.int p0), .val (.int 0), .val (.int 0), .val (.int 0), .val (.int 1), .unset, .unset] [])) _
    refine st9 _ ?_
    refine XS.iloadN X9.here hx rfl (hb hby at_36) rfl ?_
    show Steps p.tables e below (T9.setTop (mkF m 37 #[.val (.int p0), .val (.int 0), .val (.int 0), .val (.int 0), .val (.int 1), .unset, .unset] [(.int p0), (.ref a_GREATER)])) _
    refine st10.trans ?_
    refine XS.istore X10.here hx rfl (hb hby at_40) rfl (l' := #[.val (.int p0), .val (.int 0), .val (.int 0), .val (.int 0), .val (.int 1), .val (.int 1), .unset]) rfl ?_
    refine XS.iloadN X10.here hx rfl (hb hby at_42) rfl ?_
    show Steps p.tables e below (T10.setTop (mkF m 43 #[.val (.int p0), .val (.int 0), .val (.int 0), .val (.int 0), .val (.int 1), .val (.int 1), .unset] [(.int 0)])) _
    refine st11 _ ?_
    refine XS.iloadN X11.here hx rfl (hb hby at_46) rfl ?_
    show Steps p.tables e below (T11.setTop (mkF m 47 #[.val (.int p0), .val (.int 0), .val (.int 0), .val (.int 0), .val (.int 1), .val (.int 1), .unset] [(.int 0), (.int 0)])) _
    refine st12 _ ?_
    show Steps p.tables e below (T12.setTop (mkF m 50 #[.val (.int p0), .val (.int 0), .val (.int 0), .val (.int 0), .val (.int 1), .val (.int 1), .unset] [(.int 0), (.int 0)])) _
    refine XS.iadd X12.here hx rfl (hb hby at_50) rfl ?_
    show Steps p.tables e below (T12.setTop (mkF m 51 #[.val (.int p0), .val (.int 0), .val (.int 0), .val (.int 0), .val (.int 1), .val (.int 1), .unset] [(.int ((0 : Int32) + (0 : Int32)))])) _
    rw [show ((0 : Int32) + (0 : Int32)) = (0 : Int32) from by decide]
    refine XS.iload X12.here hx rfl (hb hby at_51) rfl ?_
    show Steps p.tables e below (T12.setTop (mkF m 53 #[.val (.int p0), .val (.int 0), .val (.int 0), .val (.int 0), .val (.int 1), .val (.int 1), .unset] [(.int 1), (.int 0)])) _
    refine st13 _ ?_
    show Steps p.tables e below (T13.setTop (mkF m 56 #[.val (.int p0), .val (.int 0), .val (.int 0), .val (.int 0), .val (.int 1), .val (.int 1), .unset] [(.int 1), (.int 0)])) _
    refine XS.iadd X13.here hx rfl (hb hby at_56) rfl ?_
    show Steps p.tables e below (T13.setTop (mkF m 57 #[.val (.int p0), .val (.int 0), .val (.int 0), .val (.int 0), .val (.int 1), .val (.int 1), .unset] [(.int ((0 : Int32) + (1 : Int32)))])) _
    rw [show ((0 : Int32) + (1 : Int32)) = (1 : Int32) from by decide]
    refine XS.iconst X13.here hx rfl (hb hby at_57) ?_
    refine XS.icmpNo X13.here hx rfl (hb hby at_58) rfl (by decide) ?_
    refine XS.iconst X13.here hx rfl (hb hby at_61) ?_
    refine XS.goto X13.here hx rfl (pc0 := 62) (pc' := 66) rfl (hb hby at_62) (by decide) (by decide) ?_
    show Steps p.tables e below (T13.setTop (mkF m 66 #[.val (.int p0), .val (.int 0), .val (.int 0), .val (.int 0), .val (.int 1), .val (.int 1), .unset] [(.int 1)])) _
    refine XS.istore X13.here hx rfl (hb hby at_66) rfl (l' := #[.val (.int p0), .val (.int 0), .val (.int 0), .val (.int 0), .val (.int 1), .val (.int 1), .val (.int 1)]) rfl ?_
    refine XS.iloadN X13.here hx rfl (hb hby at_68) rfl ?_
    refine XS.iloadN X13.here hx rfl (hb hby at_69) rfl ?_
    refine XS.ifYes X13.here hx rfl (pc0 := 70) (pc' := 77) rfl (hb hby at_70) rfl ((if0 _ _).trans (flt (f4 : ¬ (p0 < (0 : Int32)))).2.1) (by decide) (by decide) ?_
    refine XS.iconst X13.here hx rfl (hb hby at_77) ?_
    show Steps p.tables e below (T13.setTop (mkF m 78 #[.val (.int p0), .val (.int 0), .val (.int 0), .val (.int 0), .val (.int 1), .val (.int 1), .val (.int 1)] [(.int 0), (.int 0)])) _
    refine XS.icmpNo X13.here hx rfl (hb hby at_78) rfl (by decide) ?_
    refine XS.iload X13.here hx rfl (hb hby at_81) rfl ?_
    refine XS.iloadN X13.here hx rfl (hb hby at_83) rfl ?_
    refine XS.ifNo X13.here hx rfl (hb hby at_84) rfl ((if0 _ _).trans (tlt (f8 : (0 : Int32) < p0)).2.2.2) ?_
    refine XS.iconst X13.here hx rfl (hb hby at_87) ?_
    show Steps p.tables e below (T13.setTop (mkF m 88 #[.val (.int p0), .val (.int 0), .val (.int 0), .val (.int 0), .val (.int 1), .val (.int 1), .val (.int 1)] [(.int 1), (.int 1)])) _
    refine XS.goto X13.here hx rfl (pc0 := 88) (pc' := 92) rfl (hb hby at_88) (by decide) (by decide) ?_
    refine XS.icmpNo X13.here hx rfl (hb hby at_92) rfl (by decide) ?_
    refine XS.iload X13.here hx rfl (hb hby at_95) rfl ?_
    refine XS.ifNo X13.here hx rfl (hb hby at_97) rfl (by decide) ?_
    refine XS.iloadN X13.here hx rfl (hb hby at_100) rfl ?_
    show Steps p.tables e below (T13.setTop (mkF m 101 #[.val (.int p0), .val (.int 0), .val (.int 0), .val (.int 0), .val (.int 1), .val (.int 1), .val (.int 1)] [(.int 0)])) _
    refine XS.iloadN X13.here hx rfl (hb hby at_101) rfl ?_
    refine XS.ifNo X13.here hx rfl (hb hby at_102) rfl (by decide) ?_
    refine XS.iloadN X13.here hx rfl (hb hby at_105) rfl ?_
    refine XS.ifYes X13.here hx rfl (pc0 := 106) (pc' := 113) rfl (hb hby at_106) rfl (by decide) (by decide) (by decide) ?_
    refine XS.iconst X13.here hx rfl (hb hby at_113) ?_
    show Steps p.tables e below (T13.setTop (mkF m 114 #[.val (.int p0), .val (.int 0), .val (.int 0), .val (.int 0), .val (.int 1), .val (.int 1), .val (.int 1)] [(.int 0), (.int 0)])) _
    refine XS.icmpNo X13.here hx rfl (hb hby at_114) rfl (by decide) ?_
    refine XS.iload X13.here hx rfl (hb hby at_117) rfl ?_
    refine XS.iload X13.here hx rfl (hb hby at_119) rfl ?_
    refine XS.ifYes X13.here hx rfl (pc0 := 121) (pc' := 128) rfl (hb hby at_121) rfl (by decide) (by decide) (by decide) ?_
    refine XS.iconst X13.here hx rfl (hb hby at_128) ?_
    show Steps p.tables e below (T13.setTop (mkF m 129 #[.val (.int p0), .val (.int 0), .val (.int 0), .val (.int 0), .val (.int 1), .val (.int 1), .val (.int 1)] [(.int 1), (.int 1)])) _
    refine XS.goto X13.here hx rfl (pc0 := 129) (pc' := 133) rfl (hb hby at_129) (by decide) (by decide) ?_
    refine XS.icmpNo X13.here hx rfl (hb hby at_133) rfl (by decide) ?_
    refine XS.iconst X13.here hx rfl (hb hby at_136) ?_
    refine XS.goto X13.here hx rfl (pc0 := 137) (pc' := 141) rfl (hb hby at_137) (by decide) (by decide) ?_
    show Steps p.tables e below (T13.setTop (mkF m 141 #[.val (.int p0), .val (.int 0), .val (.int 0), .val (.int 0), .val (.int 1), .val (.int 1), .val (.int 1)] [(.int 1)])) _
    exact retN X13 hx (t := .boolean) Bd.returns (by simp) (hb hby at_141) hr
  · show QT n0 _ T13.heap _
    rw [e13]
    exact ⟨rfl, N13⟩
set_option maxRecDepth 65536 in
set_option maxHeartbeats 40000000 in
theorem comes_1 {Post : Tables → Env → Array Value → State → Outcome → State → Prop} (hpost : ∀ tb e args s v u, (limb_1_1.after args s (.returned v) u = true ∧ limb_1_2.after args s (.returned v) u = true ∧ True) → FrameEnd s (.returned v) u (Jvm.fieldLocs frame_1_writes args s ++ Jvm.arrayLocs frame_1_arrays args s ++ Jvm.staticLocs frame_1_statics s) 0 0 → Post tb e args s (.returned v) u) :
    ArmFor flags0 classFile x code maxLocals ret World_1 tables_1 room_1 Calls_1 rest_1 Pre_1 Post := by
  intro l hfl _ _ p e ha hc hk s m args below hf hA hF happ hP
  obtain ⟨hcalls, hrest, hpre⟩ := hP
  obtain ⟨-, -, -, hnamed, -, -, -, hat⟩ := (Spec.applies_iff hf).mp happ
  obtain ⟨hg, hn⟩ := and_e (Cond.before_iff.mp (show (Jvm.Cond.and given_1 narrow_1).before args s = true from hpre))
  obtain ⟨k39, k40⟩ := and_e hg
  obtain ⟨w0, rfl⟩ : ∃ w0 : Value, args = #[w0] := by
    have hs : args.size = 1 := by simpa [Cond.value, given_1] using k39
    obtain ⟨L⟩ := args
    match L, hs with
    | [w0], _ => exact ⟨w0, rfl⟩
  have hw := fun d (hd : d ∈ tables_1) => atoms_spec (ws := Jvm.Cond.code x code maxLocals ret :: tables_1) hat d (List.mem_cons_of_mem _ hd)
  have hfit : Fit s := fun {y c} hc i hi => by
    obtain ⟨ha, rfl⟩ := Array.getElem?_eq_some_iff.mp hc
    have q := List.all_eq_true.mp ((Array.all_eq_true_iff_forall_mem.mp hF) _ (Array.getElem_mem ha)) i (List.mem_range.mpr hi)
    simpa [Array.getElem?_eq_getElem hi] using q
  obtain ⟨p0, ei0⟩ := is_v k40
  obtain rfl : w0 = (.int p0) := Option.some.inj ei0
  obtain ⟨g1, g2⟩ := and_e hn
  obtain ⟨g3, g4⟩ := and_e g2
  obtain ⟨g5, g6⟩ := and_e g4
  obtain ⟨g7, g8⟩ := and_e g6
  obtain ⟨g9, g10⟩ := and_e g8
  obtain ⟨g11, g12⟩ := and_e g10
  obtain ⟨g13, g14⟩ := and_e g12
  obtain ⟨g15, g16⟩ := and_e g14
  obtain ⟨g17, g18⟩ := and_e g16
  obtain ⟨a_LESS, ev_a_LESS⟩ := exa_v g1
  have S_a_LESS : Sta s s.heap "com/example/orderweft/orderweft/rules/Criterion$Comparison" "LESS" "Lcom/example/orderweft/orderweft/rules/Criterion$Comparison;" (.ref a_LESS) := Sta.start ev_a_LESS (Or.inr ⟨(tw_1 hw), (tw_2 hw)⟩)
  have E_a_LESS : Exa s s.heap a_LESS "com/example/orderweft/orderweft/rules/Criterion$Comparison" := Exa.start ev_a_LESS g1
  obtain ⟨a_AT_MOST, ev_a_AT_MOST⟩ := exa_v g5
  have S_a_AT_MOST : Sta s s.heap "com/example/orderweft/orderweft/rules/Criterion$Comparison" "AT_MOST" "Lcom/example/orderweft/orderweft/rules/Criterion$Comparison;" (.ref a_AT_MOST) := Sta.start ev_a_AT_MOST (Or.inr ⟨(tw_1 hw), (tw_18 hw)⟩)
  have E_a_AT_MOST : Exa s s.heap a_AT_MOST "com/example/orderweft/orderweft/rules/Criterion$Comparison" := Exa.start ev_a_AT_MOST g5
  obtain ⟨a_EQUAL, ev_a_EQUAL⟩ := exa_v g9
  have S_a_EQUAL : Sta s s.heap "com/example/orderweft/orderweft/rules/Criterion$Comparison" "EQUAL" "Lcom/example/orderweft/orderweft/rules/Criterion$Comparison;" (.ref a_EQUAL) := Sta.start ev_a_EQUAL (Or.inr ⟨(tw_1 hw), (tw_20 hw)⟩)
  have E_a_EQUAL : Exa s s.heap a_EQUAL "com/example/orderweft/orderweft/rules/Criterion$Comparison" := Exa.start ev_a_EQUAL g9
  obtain ⟨a_AT_LEAST, ev_a_AT_LEAST⟩ := exa_v g13
  have S_a_AT_LEAST : Sta s s.heap "com/example/orderweft/orderweft/rules/Criterion$Comparison" "AT_LEAST" "Lcom/example/orderweft/orderweft/rules/Criterion$Comparison;" (.ref a_AT_LEAST) := Sta.start ev_a_AT_LEAST (Or.inr ⟨(tw_1 hw), (tw_22 hw)⟩)
  have E_a_AT_LEAST : Exa s s.heap a_AT_LEAST "com/example/orderweft/orderweft/rules/Criterion$Comparison" := Exa.start ev_a_AT_LEAST g13
  obtain ⟨a_GREATER, ev_a_GREATER⟩ := exa_v g17
  have S_a_GREATER : Sta s s.heap "com/example/orderweft/orderweft/rules/Criterion$Comparison" "GREATER" "Lcom/example/orderweft/orderweft/rules/Criterion$Comparison;" (.ref a_GREATER) := Sta.start ev_a_GREATER (Or.inr ⟨(tw_1 hw), (tw_24 hw)⟩)
  have E_a_GREATER : Exa s s.heap a_GREATER "com/example/orderweft/orderweft/rules/Criterion$Comparison" := Exa.start ev_a_GREATER g17
  have F_ordinal_a_LESS : Fld s s.heap a_LESS "java/lang/Enum" "ordinal" "I" (.int (0 : Int32)) := own_fld ev_a_LESS g3
  have F_ordinal_a_AT_MOST : Fld s s.heap a_AT_MOST "java/lang/Enum" "ordinal" "I" (.int (1 : Int32)) := own_fld ev_a_AT_MOST g7
  have F_ordinal_a_EQUAL : Fld s s.heap a_EQUAL "java/lang/Enum" "ordinal" "I" (.int (2 : Int32)) := own_fld ev_a_EQUAL g11
  have F_ordinal_a_AT_LEAST : Fld s s.heap a_AT_LEAST "java/lang/Enum" "ordinal" "I" (.int (3 : Int32)) := own_fld ev_a_AT_LEAST g15
  have F_ordinal_a_GREATER : Fld s s.heap a_GREATER "java/lang/Enum" "ordinal" "I" (.int (4 : Int32)) := own_fld ev_a_GREATER g18
  have M : MetFree l x (head1 (Jvm.Cond.code x code maxLocals ret :: tables_1) room_1) (fun a U => a = #[(.int p0)] ∧ s.Warmed39 U.vm ∧ U.heap = s.heap) (fun _ _ _ _ _ => True) (fun _ U o U' => ∃ v L, o = .returned v ∧ QT s.heap.size v U'.heap L ∧ FrameEnd U o U' L room_1.cells room_1.slots) := by
    rcases own_tri p0 with ⟨hk1, hk2, hk3⟩ | ⟨hk1, hk2, hk3⟩ | ⟨hk1, hk2, hk3⟩
    · exact rm0_31 l s _ hw tables_1 p0 a_LESS a_AT_MOST a_EQUAL a_AT_LEAST a_GREATER s.heap s.heap.size (Nat.le_refl _) S_a_LESS F_ordinal_a_LESS E_a_LESS hk1 S_a_AT_MOST F_ordinal_a_AT_MOST E_a_AT_MOST hk2 S_a_EQUAL F_ordinal_a_EQUAL E_a_EQUAL hk3 S_a_AT_LEAST F_ordinal_a_AT_LEAST E_a_AT_LEAST S_a_GREATER F_ordinal_a_GREATER E_a_GREATER
    · exact rm0_35 l s _ hw tables_1 p0 a_LESS a_AT_MOST a_EQUAL a_AT_LEAST a_GREATER s.heap s.heap.size (Nat.le_refl _) S_a_LESS F_ordinal_a_LESS E_a_LESS hk1 S_a_AT_MOST F_ordinal_a_AT_MOST E_a_AT_MOST hk2 S_a_EQUAL F_ordinal_a_EQUAL E_a_EQUAL hk3 S_a_AT_LEAST F_ordinal_a_AT_LEAST E_a_AT_LEAST S_a_GREATER F_ordinal_a_GREATER E_a_GREATER
    · exact rm0_38 l s _ hw tables_1 p0 a_LESS a_AT_MOST a_EQUAL a_AT_LEAST a_GREATER s.heap s.heap.size (Nat.le_refl _) S_a_LESS F_ordinal_a_LESS E_a_LESS hk1 S_a_AT_MOST F_ordinal_a_AT_MOST E_a_AT_MOST hk2 S_a_EQUAL F_ordinal_a_EQUAL E_a_EQUAL hk3 S_a_AT_LEAST F_ordinal_a_AT_LEAST E_a_AT_LEAST S_a_GREATER F_ordinal_a_GREATER E_a_GREATER
  obtain ⟨n, o, h1, h2, h3, _, L, rfl, ⟨rfl, N⟩, hq⟩ := M p e ha hc hk s m _ below hf ((Spec.applies_iff_loose hf).mp happ).1 ⟨rfl, State.Warmed39.refl s, rfl⟩ trivial
  refine ⟨n, _, h1, h2, h3, hpost _ _ _ _ _ _ ⟨Cond.after_iff.mpr rfl, Cond.after_iff.mpr (eq_i res_at (Term.int_eval (1)) rfl), trivial⟩ ⟨hq.1, hq.2.1, (hq.2.2.sift fun y hy => Or.inr (N y hy)).mono (by decide) (by decide)⟩⟩
theorem main_1_1 : Claimed_1_1 := comes_1 fun _ _ _ _ _ _ h hF => ⟨h.1, hF⟩
theorem main_1_2 : Claimed_1_2 := comes_1 fun _ _ _ _ _ _ h hF => ⟨h.2.1, hF⟩
end Jvm.Pilot.@@N@@
namespace Jvm.Pilot.@@N@@
open Jvm Jvm.ClassFile Sem Op Lib Jvm.Free Jvm.Stand Jvm.Pilot.@@N@@.Jvm.D
/-! MADE BY PROGRAM (witnessworld.py) out of the Statement's table words and the real class files: 10 classes; the members and pool entries that the words name. The judged class is class 1, her method 2. -/
namespace start1
open Jvm.ClassFile
def u (s : String) : CpInfo := .utf8 (stringToUtf16 s)
/-- a pool by its gaps: so many unusable entries, then the entry; so many at the end -/
def gap : Nat → List CpInfo → List CpInfo
  | 0, r => r
  | n + 1, r => .unusable :: gap n r
def poolList (es : List (Nat × CpInfo)) (last : Nat) : List CpInfo := es.foldr (fun e r => gap e.1 (e.2 :: r)) (gap last [])
def pool (es : List (Nat × CpInfo)) (last : Nat) : Array CpInfo := ⟨poolList es last⟩
def fileOf (pool : Array CpInfo) (this : Nat) (attrs : Array Attribute := #[]) (ms : Array MethodInfo := #[]) (fl : Nat := 33) (sup : Nat := 0) (ifs : Array Nat := #[]) (fds : Array FieldInfo := #[]) : ClassFile where
  minorVersion := 0
  majorVersion := 65
  constantPool := pool
  accessFlags := fl
  thisClass := this
  superClass := sup
  interfaces := ifs
  fields := fds
  methods := ms
  attributes := attrs
def plain (name : String) (sup : Option ClassId) : Class where
  name := name
  kind := .ordinary
  loader := none
  accessFlags := 33
  super := sup
  interfaces := #[]
  cf := none
  fields := #[]
  methods := #[]
  instanceTypes := #[]
  staticTypes := #[]
  resolved := #[]
  callSites := []
  init := .initialized
  statics := none
  mirror := none

def pool0 : Array CpInfo := pool [(5, u "<init>"), (0, u "()V"), (1, .class_ 10), (1, u "java/lang/Object")] 113

def k0m0 : Method := { name := "<init>", desc := "()V", sig := { parameters := [], returnType := none }, accessFlags := 1, code := none }
/-- java/lang/Object -/
def k0 : Class := { plain "java/lang/Object" none with
  accessFlags := 33
  interfaces := #[]
  cf := some (fileOf pool0 8 #[] #[{ accessFlags := 1, nameIndex := 5, descriptorIndex := 6, attributes := #[] }] 33 0 #[] #[])
  fields := #[]
  methods := #[k0m0]
  instanceTypes := #[]
  staticTypes := #[]
  resolved := Array.replicate 124 none
  statics := none }

def pool1 : Array CpInfo := pool [(2, .class_ 4), (1, u "java/lang/Object"), (0, u "<init>"), (0, u "()V"), (0, .fieldref 8 9), (0, .class_ 10), (0, .nameAndType 11 12), (0, u "com/example/orderweft/orderweft/rules/Criterion$Comparison"), (0, u "LESS"), (0, u "Lcom/example/orderweft/orderweft/rules/Criterion$Comparison;"), (0, .methodref 8 14), (0, .nameAndType 15 16), (0, u "accepts"), (0, u "(I)Z"), (0, .fieldref 8 18), (0, .nameAndType 19 12), (0, u "AT_MOST"), (0, .fieldref 8 21), (0, .nameAndType 22 12), (0, u "EQUAL"), (0, .fieldref 8 24), (0, .nameAndType 25 12), (0, u "AT_LEAST"), (0, .fieldref 8 27), (0, .nameAndType 28 12), (0, u "GREATER"), (0, .methodref 30 31), (0, .class_ 32), (0, .nameAndType 33 34), (0, u "com/example/orderweft/orderweft/rules/ComparisonAcceptsPinLaw"), (0, u "one"), (0, u "(Z)I"), (3, u "law")] 6

def k1m0 : Method := { name := "<init>", desc := "()V", sig := { parameters := [], returnType := none }, accessFlags := 2, code := none }
def k1c1 : Code := { maxStack := 1, maxLocals := 1, code := method_2_code, exceptionTable := #[], attributes := #[] }
def k1m1 : Method := { name := "one", desc := "(Z)I", sig := { parameters := [.boolean], returnType := some .int }, accessFlags := 10, code := some k1c1 }
def k1c2 : Code := { maxStack := 2, maxLocals := 7, code := code, exceptionTable := #[], attributes := #[] }
def k1m2 : Method := { name := "law", desc := "(I)Z", sig := { parameters := [.int], returnType := some .boolean }, accessFlags := 9, code := some k1c2 }
/-- com/example/orderweft/orderweft/rules/ComparisonAcceptsPinLaw -/
def k1 : Class := { plain "com/example/orderweft/orderweft/rules/ComparisonAcceptsPinLaw" (some 0) with
  accessFlags := 49
  interfaces := #[]
  cf := some (fileOf pool1 30 #[] #[{ accessFlags := 2, nameIndex := 5, descriptorIndex := 6, attributes := #[] }, { accessFlags := 10, nameIndex := 33, descriptorIndex := 34, attributes := #[] }, { accessFlags := 9, nameIndex := 38, descriptorIndex := 16, attributes := #[] }] 49 2 #[] #[])
  fields := #[]
  methods := #[k1m0, k1m1, k1m2]
  instanceTypes := #[]
  staticTypes := #[]
  resolved := Array.replicate 45 none
  statics := none }

def pool2 : Array CpInfo := pool [(1, .class_ 2), (0, u "java/lang/constant/Constable"), (0, .class_ 4), (0, u "java/lang/Object")] 6

/-- java/lang/constant/Constable -/
def k2 : Class := { plain "java/lang/constant/Constable" (some 0) with
  accessFlags := 1537
  interfaces := #[]
  cf := some (fileOf pool2 1 #[] #[] 1537 3 #[] #[])
  fields := #[]
  methods := #[]
  instanceTypes := #[]
  staticTypes := #[]
  resolved := Array.replicate 11 none
  statics := none }

def pool3 : Array CpInfo := pool [(1, .class_ 2), (0, u "java/lang/Comparable"), (0, .class_ 4), (0, u "java/lang/Object")] 7

/-- java/lang/Comparable -/
def k3 : Class := { plain "java/lang/Comparable" (some 0) with
  accessFlags := 1537
  interfaces := #[]
  cf := some (fileOf pool3 1 #[] #[] 1537 3 #[] #[])
  fields := #[]
  methods := #[]
  instanceTypes := #[]
  staticTypes := #[]
  resolved := Array.replicate 12 none
  statics := none }

def pool4 : Array CpInfo := pool [(1, .class_ 2), (0, u "java/io/Serializable"), (0, .class_ 4), (0, u "java/lang/Object")] 2

/-- java/io/Serializable -/
def k4 : Class := { plain "java/io/Serializable" (some 0) with
  accessFlags := 1537
  interfaces := #[]
  cf := some (fileOf pool4 1 #[] #[] 1537 3 #[] #[])
  fields := #[]
  methods := #[]
  instanceTypes := #[]
  staticTypes := #[]
  resolved := Array.replicate 7 none
  statics := none }

def pool5 : Array CpInfo := pool [(2, .class_ 4), (1, u "java/lang/Enum"), (0, u "name"), (0, u "Ljava/lang/String;"), (0, .fieldref 2 8), (0, .nameAndType 9 10), (0, u "ordinal"), (0, u "I"), (1, .class_ 14), (1, u "java/lang/Object"), (4, u "hash"), (86, .class_ 108), (1, u "java/lang/Enum$EnumDesc"), (2, .class_ 112), (0, u "java/lang/constant/Constable"), (0, .class_ 114), (0, u "java/lang/Comparable"), (0, .class_ 116), (0, u "java/io/Serializable"), (9, u "()I")] 77

def k5c0 : Code := { maxStack := 1, maxLocals := 1, code := jdk_37_method_2_code, exceptionTable := #[], attributes := #[] }
def k5m0 : Method := { name := "ordinal", desc := "()I", sig := { parameters := [], returnType := some .int }, accessFlags := 17, code := some k5c0 }
/-- java/lang/Enum -/
def k5 : Class := { plain "java/lang/Enum" (some 0) with
  accessFlags := 1057
  interfaces := #[2, 3, 4]
  cf := some (fileOf pool5 2 #[.nestMembers #[106]] #[{ accessFlags := 17, nameIndex := 9, descriptorIndex := 126, attributes := #[] }] 1057 12 #[111, 113, 115] #[{ accessFlags := 18, nameIndex := 5, descriptorIndex := 6, attributes := #[] }, { accessFlags := 18, nameIndex := 9, descriptorIndex := 10, attributes := #[] }, { accessFlags := 2, nameIndex := 19, descriptorIndex := 10, attributes := #[] }])
  fields := #[{ name := "name", type := (.object "java/lang/String"), accessFlags := 18, slot := 0, constantValue := 0 }, { name := "ordinal", type := .int, accessFlags := 18, slot := 1, constantValue := 0 }, { name := "hash", type := .int, accessFlags := 2, slot := 2, constantValue := 0 }]
  methods := #[k5m0]
  instanceTypes := #[(.object "java/lang/String"), .int, .int]
  staticTypes := #[]
  resolved := Array.replicate 204 none
  statics := none }

def pool6 : Array CpInfo := pool [(1, .class_ 2), (0, u "com/example/orderweft/orderweft/rules/Criterion$Comparison"), (2, u "LESS"), (0, u "Lcom/example/orderweft/orderweft/rules/Criterion$Comparison;"), (2, u "AT_MOST"), (2, u "EQUAL"), (2, u "AT_LEAST"), (2, u "GREATER"), (2, u "$VALUES"), (0, u "[Lcom/example/orderweft/orderweft/rules/Criterion$Comparison;"), (6, .class_ 31), (1, u "java/lang/Enum"), (8, u "symbol"), (0, u "Ljava/lang/String;"), (0, .methodref 1 43), (0, .nameAndType 44 45), (0, u "ordinal"), (0, u "()I"), (34, u "accepts"), (0, u "(I)Z"), (9, .class_ 92), (0, u "com/example/orderweft/orderweft/rules/Criterion")] 2

def k6c0 : Code := { maxStack := 4, maxLocals := 2, code := prog_61_method_4_code, exceptionTable := #[], attributes := #[] }
def k6m0 : Method := { name := "accepts", desc := "(I)Z", sig := { parameters := [.int], returnType := some .boolean }, accessFlags := 1, code := some k6c0 }
/-- com/example/orderweft/orderweft/rules/Criterion$Comparison -/
def k6 : Class := { plain "com/example/orderweft/orderweft/rules/Criterion$Comparison" (some 5) with
  accessFlags := 16433
  interfaces := #[]
  cf := some (fileOf pool6 1 #[.nestHost 91] #[{ accessFlags := 1, nameIndex := 80, descriptorIndex := 81, attributes := #[] }] 16433 29 #[] #[{ accessFlags := 16409, nameIndex := 5, descriptorIndex := 6, attributes := #[] }, { accessFlags := 16409, nameIndex := 9, descriptorIndex := 6, attributes := #[] }, { accessFlags := 16409, nameIndex := 12, descriptorIndex := 6, attributes := #[] }, { accessFlags := 16409, nameIndex := 15, descriptorIndex := 6, attributes := #[] }, { accessFlags := 16409, nameIndex := 18, descriptorIndex := 6, attributes := #[] }, { accessFlags := 18, nameIndex := 40, descriptorIndex := 41, attributes := #[] }, { accessFlags := 4122, nameIndex := 21, descriptorIndex := 22, attributes := #[] }])
  fields := #[{ name := "LESS", type := (.object "com/example/orderweft/orderweft/rules/Criterion$Comparison"), accessFlags := 16409, slot := 0, constantValue := 0 }, { name := "AT_MOST", type := (.object "com/example/orderweft/orderweft/rules/Criterion$Comparison"), accessFlags := 16409, slot := 1, constantValue := 0 }, { name := "EQUAL", type := (.object "com/example/orderweft/orderweft/rules/Criterion$Comparison"), accessFlags := 16409, slot := 2, constantValue := 0 }, { name := "AT_LEAST", type := (.object "com/example/orderweft/orderweft/rules/Criterion$Comparison"), accessFlags := 16409, slot := 3, constantValue := 0 }, { name := "GREATER", type := (.object "com/example/orderweft/orderweft/rules/Criterion$Comparison"), accessFlags := 16409, slot := 4, constantValue := 0 }, { name := "symbol", type := (.object "java/lang/String"), accessFlags := 18, slot := 3, constantValue := 0 }, { name := "$VALUES", type := (.array (.object "com/example/orderweft/orderweft/rules/Criterion$Comparison")), accessFlags := 4122, slot := 5, constantValue := 0 }]
  methods := #[k6m0]
  instanceTypes := #[(.object "java/lang/String"), .int, .int, (.object "java/lang/String")]
  staticTypes := #[(.object "com/example/orderweft/orderweft/rules/Criterion$Comparison"), (.object "com/example/orderweft/orderweft/rules/Criterion$Comparison"), (.object "com/example/orderweft/orderweft/rules/Criterion$Comparison"), (.object "com/example/orderweft/orderweft/rules/Criterion$Comparison"), (.object "com/example/orderweft/orderweft/rules/Criterion$Comparison"), (.array (.object "com/example/orderweft/orderweft/rules/Criterion$Comparison"))]
  resolved := Array.replicate 95 none
  statics := some 0 }

def pool7 : Array CpInfo := pool [(1, u "java/lang/Cloneable"), (0, .class_ 1), (0, u "java/lang/Object"), (0, .class_ 3)] 3

/-- java/lang/Cloneable -/
def k7 : Class := { plain "java/lang/Cloneable" (some 0) with
  accessFlags := 1537
  interfaces := #[]
  cf := some (fileOf pool7 2 #[] #[] 1537 4 #[] #[])
  fields := #[]
  methods := #[]
  instanceTypes := #[]
  staticTypes := #[]
  resolved := Array.replicate 8 none
  statics := none }

/-- the primitive byte -/
def k8 : Class := { plain "byte" none with kind := .primitive 'B', accessFlags := 0x411 }
/-- [B -/
def k9 : Class := { plain "[B" (some 0) with kind := .array 8 .byte, interfaces := #[7, 4], accessFlags := 1041 }

def heap : Heap := #[{ cls := 6, slots := #[.ref 1, .ref 2, .ref 3, .ref 4, .ref 5, .null], vm := .statics 6 },
  { cls := 6, slots := #[.null, .int 0, .int 0, .null], vm := .none },
  { cls := 6, slots := #[.null, .int 1, .int 0, .null], vm := .none },
  { cls := 6, slots := #[.null, .int 2, .int 0, .null], vm := .none },
  { cls := 6, slots := #[.null, .int 3, .int 0, .null], vm := .none },
  { cls := 6, slots := #[.null, .int 4, .int 0, .null], vm := .none }]
def classes : Array Class := #[k0, k1, k2, k3, k4, k5, k6, k7, k8, k9]
def interned : List (Array UInt16 × Addr) := []
def slotsUsed : Nat := 26
def theMethod : MethodId := ⟨1, 2⟩
def args0 : Array Value := #[.int 5]
def aboutOver (below : List Frame) : State where
  vm := { classes := classes, interned := interned.toArray }
  heap := heap
  slotsUsed := slotsUsed
  threads := #[{ frames := .invoking theMethod args0 :: below }]
def below0 : List Frame := [.native { method := ⟨0, 0⟩, args := #[] }]
def about1 : State := aboutOver below0
def p0 : Program := .bare "" "" ""
def e0 : Env := launch0.env 0 0 0
theorem w_frames : about1.frames = Frame.invoking theMethod args0 :: below0 := rfl
set_option maxRecDepth 65536 in
theorem w_args : argsFit about1.vm theMethod args0 = true := by decide +kernel
set_option maxRecDepth 65536 in
theorem w_heap : heapFits about1 = true := by decide +kernel
set_option maxRecDepth 65536 in
theorem w_runnable : about1.curStatus? = some .runnable := by decide +kernel
set_option maxRecDepth 65536 in
theorem w_alone : about1.alone = true := by decide +kernel
set_option maxRecDepth 65536 in
theorem w_named : about1.methodNamed? x = some theMethod := by decide +kernel
set_option maxRecDepth 65536 in
theorem w_hears : about1.hears theMethod below0 = true := by decide +kernel
set_option maxRecDepth 65536 in
theorem w_ripe : about1.ripe theMethod args0 below0 = true := by decide +kernel
theorem w_running : about1.status = .running := rfl
set_option maxRecDepth 65536 in
theorem w_room : about1.hasRoom e0.platform room_1 = true :=
  launch0.hasRoom_least _ room_1 (by decide +kernel) (by decide +kernel) (by decide +kernel) (by decide +kernel) (by decide +kernel) (by decide +kernel)
theorem allAtoms_all (ts : List Jvm.Cond) (a : Array Jvm.Value) (st : Jvm.State) : (allAtoms ts).before a st = ts.all (fun c => c.before a st) := by
  induction ts with
  | nil => rfl
  | cons c t ih =>
    show (Jvm.Cond.and c (allAtoms t)).before a st = _
    rw [Jvm.Cond.before_and, ih, List.all_cons]
def words1 : List Jvm.Cond := Jvm.Cond.code x code maxLocals ret :: tables_1
/-- a 'code' word, met by the world's own term for the bytes: nothing is compared byte by byte -/
theorem code_word {y : MethodName} {bytes : ByteArray} {mx : Nat} {rt : Option FieldType} {a : Array Value} {s : State} {m : MethodId} {meth : Method} {c : Code} (h1 : s.methodNamed? y = some m) (h2 : s.vm.method? m = some meth) (h3 : meth.code = some c) (h4 : c.code = bytes)
    (h5 : (c.maxLocals == mx && c.exceptionTable.isEmpty && decide (c.maxStack ≤ mostOperands) && decide (meth.sig.returnType = rt) && !meth.locks && decide (parseMethodDescriptor y.desc = some meth.sig)) = true) : (Jvm.Cond.code y bytes mx rt).before a s = true := by
  simp only [Bool.and_eq_true, beq_iff_eq, Bool.not_eq_true', decide_eq_true_eq] at h5
  obtain ⟨⟨⟨⟨⟨g1, g2⟩, g3⟩, g4⟩, g5⟩, g6⟩ := h5
  simp [Cond.before, Cond.holds, Cond.value, h1, h2, h3, h4, g1, g2, g3, g4, g5, g6]
def isCode : Jvm.Cond → Bool
  | .code _ _ _ _ => true
  | _ => false
theorem all_split {L : List Jvm.Cond} {P : Jvm.Cond → Bool} (h1 : L.all (fun c => isCode c || P c) = true) (h2 : ∀ c ∈ L.filter isCode, P c = true) : L.all P = true := by
  refine List.all_eq_true.mpr fun c hc => ?_
  have h := List.all_eq_true.mp h1 c hc
  rcases Bool.eq_false_or_eq_true (isCode c) with hi | hi
  · exact h2 c (List.mem_filter.mpr ⟨hc, hi⟩)
  · simpa [hi] using h
set_option maxRecDepth 65536 in
theorem w_c0 : (Jvm.Cond.code x code maxLocals ret).before args0 about1 = true := code_word (m := ⟨1, 2⟩) (meth := k1m2) (c := k1c2) (by decide +kernel) rfl rfl rfl (by decide +kernel)
set_option maxRecDepth 65536 in
theorem w_c1 : (Jvm.Cond.code ({ cls := "com/example/orderweft/orderweft/rules/Criterion$Comparison", name := "accepts", desc := "(I)Z" } : Jvm.MethodName) prog_61_method_4_code (2 : Nat) (Option.some Jvm.ClassFile.FieldType.boolean)).before args0 about1 = true := code_word (m := ⟨6, 0⟩) (meth := k6m0) (c := k6c0) (by decide +kernel) rfl rfl rfl (by decide +kernel)
set_option maxRecDepth 65536 in
theorem w_c2 : (Jvm.Cond.code ({ cls := "java/lang/Enum", name := "ordinal", desc := "()I" } : Jvm.MethodName) jdk_37_method_2_code (1 : Nat) (Option.some Jvm.ClassFile.FieldType.int)).before args0 about1 = true := code_word (m := ⟨5, 0⟩) (meth := k5m0) (c := k5c0) (by decide +kernel) rfl rfl rfl (by decide +kernel)
set_option maxRecDepth 65536 in
theorem w_c3 : (Jvm.Cond.code ({ cls := "com/example/orderweft/orderweft/rules/ComparisonAcceptsPinLaw", name := "one", desc := "(Z)I" } : Jvm.MethodName) method_2_code (1 : Nat) (Option.some Jvm.ClassFile.FieldType.int)).before args0 about1 = true := code_word (m := ⟨1, 1⟩) (meth := k1m1) (c := k1c1) (by decide +kernel) rfl rfl rfl (by decide +kernel)
def codes1 : List Jvm.Cond := [Jvm.Cond.code x code maxLocals ret, Jvm.Cond.code ({ cls := "com/example/orderweft/orderweft/rules/Criterion$Comparison", name := "accepts", desc := "(I)Z" } : Jvm.MethodName) prog_61_method_4_code (2 : Nat) (Option.some Jvm.ClassFile.FieldType.boolean), Jvm.Cond.code ({ cls := "java/lang/Enum", name := "ordinal", desc := "()I" } : Jvm.MethodName) jdk_37_method_2_code (1 : Nat) (Option.some Jvm.ClassFile.FieldType.int), Jvm.Cond.code ({ cls := "com/example/orderweft/orderweft/rules/ComparisonAcceptsPinLaw", name := "one", desc := "(Z)I" } : Jvm.MethodName) method_2_code (1 : Nat) (Option.some Jvm.ClassFile.FieldType.int)]
set_option maxRecDepth 65536 in
theorem codes_eq : words1.filter isCode = codes1 := rfl
theorem w_codes : ∀ c ∈ words1.filter isCode, c.before args0 about1 = true := by
  rw [codes_eq]
  intro c hc
  simp only [codes1, List.mem_cons, List.not_mem_nil, or_false] at hc
  rcases hc with rfl | rfl | rfl | rfl
  · exact w_c0
  · exact w_c1
  · exact w_c2
  · exact w_c3
set_option maxRecDepth 65536 in
theorem w_t1 : (words1.take 24).all (fun c => isCode c || c.before args0 about1) = true := by decide +kernel
set_option maxRecDepth 65536 in
theorem w_t2 : (words1.drop 24).all (fun c => isCode c || c.before args0 about1) = true := by decide +kernel
theorem w_tables : (allAtoms (Jvm.Cond.code x code maxLocals ret :: tables_1)).before args0 about1 = true := by
  rw [allAtoms_all]
  show words1.all (fun c => c.before args0 about1) = true
  refine all_split ?_ w_codes
  rw [← List.take_append_drop 24 words1, List.all_append, w_t1, w_t2]
  rfl
set_option maxRecDepth 65536 in
theorem w_case : (Jvm.Cond.and given_1 narrow_1).before args0 about1 = true := by decide +kernel
theorem w_applies : (headSpec (Jvm.Cond.code x code maxLocals ret :: tables_1) room_1).applies x e0.platform about1 = true :=
  (Spec.applies_iff w_frames).mpr ⟨w_running, w_runnable, w_alone, w_named, w_hears, w_ripe, w_room, w_tables⟩
theorem atStart : AtStart classFile x code maxLocals ret World_1 tables_1 room_1 Calls_1 rest_1 Pre_1 launch0 p0 e0 about1 theMethod args0 below0 :=
  ⟨lists_1, trivial, launch0.admits_env _ _ _, launch0.least_env, fairChoices_fair.cas, fairChoices_fair.clock, w_frames, w_args, w_heap, w_applies, trivial, trivial, w_case⟩
end start1
theorem witness_1 : WitnessClaimed_1 := ⟨start1.p0, start1.e0, start1.about1, start1.theMethod, start1.args0, start1.below0, start1.atStart⟩
end Jvm.Pilot.@@N@@
