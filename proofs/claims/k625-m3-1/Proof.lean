import JvmDerived
import JvmDerived.Pilot.@@N@@Statement
import JvmDerived.Pilot.@@N@@Code
set_option linter.unusedVariables false
set_option linter.unusedSimpArgs false
namespace Jvm.RoadKit
open Sem ClassFile Op Lib Jvm.Stand Jvm.Free Jvm.LawKit
section New
variable {p : Program} {l : Launch} {e : Env} {R : Room} {s : State} {m : MethodId} {args : Array Value} {below : List Frame} {meth : Method} {c : Code} {T : State} {locs : List Loc} {cells slots : Nat}
theorem retI (X : Stand p l e R s m args below meth c T locs cells slots) (hx : p.tables.exec = Jvm.exec) {pc : Nat} {Ls : Array Slot} {z : Int32} {rest : List Value} (hret : meth.sig.returnType = some .int) (hd : decode c.code pc = .ok (.ireturn, 1)) {fs : List Frame}
    (hl : ∀ (f : JFrame) (acts : List Action), f.method = m → f.locked = none → f.entered = [] → (doReturn e (T.setTop f) acts (some (.int z))).1 = T.setFrames fs) : Steps p.tables e below (T.setTop (mkF m pc Ls (.int z :: rest))) (T.setFrames fs) := by
  have hm' : T.vm.method? m = some meth := X.method'
  have hn : narrow .int (.int z) = .int z := rfl
  show Steps p.tables e below (T.setTop { method := m, pc := pc, locals := Ls, stack := _ :: rest, locked := none }) _
  jvm_step X.here [X.here.top, hx, hd, hm', hret, hn]
  first | (intro acts; rw [hl _ acts rfl rfl rfl]) | rw [hl _ _ rfl rfl rfl]
  exact Steps.refl _
end New
end Jvm.RoadKit
namespace Jvm.Pilot.@@N@@
open Jvm Jvm.ClassFile Sem Op Lib Jvm.Free Jvm.Stand Jvm.LawKit Jvm.RoadKit Bundle Jvm.Pilot.@@N@@.Jvm.D
def QT (n0 : Nat) (v : Option Value) (h : Heap) (L : List Loc) : Prop := v = some (.int 1) ∧ Fr n0 L
def QP (r : Option Value) (h0 : Heap) (n0 : Nat) (v : Option Value) (h : Heap) (L : List Loc) : Prop := v = r ∧ Fr n0 L ∧ h = h0
theorem own_fld {Z : State} {args : Array Value} {t : Term} {C n d : String} {a : Addr} {i : Int32} (ev : t.eval args Z none [] Z = some (.ref a)) (h : (Cond.eq (Term.field t C n d) (Term.int i)).value args Z none Z [] = some true) : Fld Z Z.heap a C n d (.int i) := by
  have e := fld_at (C := C) (n := n) (dd := d) ev
  refine Fld.start ?_
  obtain ⟨x, y, h1, h2, k1, k2⟩ := cmp_v (Or.inl h)
  have h3 : y = .int i := (Option.some.inj ((Term.int_eval i).symm.trans h2)).symm
  subst h3
  obtain ⟨z, rfl⟩ := k2
  have q : z = i := by simpa [Cond.value, h1, h2] using h
  rw [← e, h1, q]
theorem own_fldn {Z : State} {args : Array Value} {t : Term} {C n d : String} {a : Addr} (ev : t.eval args Z none [] Z = some (.ref a)) (h : (Cond.eq (Term.field t C n d) Term.null).value args Z none Z [] = some true) : Fld Z Z.heap a C n d .null := Fld.start ((fld_at ev).symm.trans (null_v h))
theorem own_sti {Z : State} {args : Array Value} {C n d : String} {i : Int32} (h : (Cond.eq (Term.static C n d) (Term.int i)).value args Z none Z [] = some true) : (Term.static C n d).eval args Z none [] Z = some (.int i) := by
  obtain ⟨x, y, h1, h2, k1, k2⟩ := cmp_v (Or.inl h)
  have h3 : y = .int i := (Option.some.inj ((Term.int_eval i).symm.trans h2)).symm
  subst h3
  obtain ⟨z, rfl⟩ := k2
  have q : z = i := by simpa [Cond.value, h1, h2] using h
  rw [h1, q]
theorem own_sta_keep {Z : State} {h h' : Heap} {C n d : String} {v : Value} {ws : List Addr} (F : Sta Z h C n d v) (K : Keep h h' ws) (q : ∀ x ∈ ws, ∀ c : Cell, h[x]? = some c → c.vm.isStatics = false) : Sta Z h' C n d v := by
  obtain ⟨cf, i, k, f, st, cell, h1, h2, h3, h4, h5, h6, h7⟩ := F
  have ne : st ∉ ws := fun z => by rw [q st z cell h5] at h6; cases h6
  exact ⟨cf, i, k, f, st, cell, h1, h2, h3, h4, K.2.1 st cell h5 ne, h6, h7⟩
theorem own_ns {h : Heap} {x : Addr} {ws : List Addr} (p : ∀ c : Cell, h[x]? = some c → c.vm.isStatics = false) (q : ∀ y ∈ ws, ∀ c : Cell, h[y]? = some c → c.vm.isStatics = false) : ∀ y ∈ x :: ws, ∀ c : Cell, h[y]? = some c → c.vm.isStatics = false := fun y hy => (List.mem_cons.mp hy).elim (fun e => e ▸ p) (q y)
theorem own_notin {a x : Addr} {ws : List Addr} (p : a ≠ x) (q : a ∉ ws) : a ∉ x :: ws := fun h => (List.mem_cons.mp h).elim p q
theorem own_and7 (x : Int32) : (x &&& (7 : Int32)) = (0 : Int32) ∨ (x &&& (7 : Int32)) = (1 : Int32) ∨ (x &&& (7 : Int32)) = (2 : Int32) ∨ (x &&& (7 : Int32)) = (3 : Int32) ∨ (x &&& (7 : Int32)) = (4 : Int32) ∨ (x &&& (7 : Int32)) = (5 : Int32) ∨ (x &&& (7 : Int32)) = (6 : Int32) ∨ (x &&& (7 : Int32)) = (7 : Int32) := by
  have h := c_and x (7 : Int32) (by decide)
  have e : (7 : Int32).toInt = 7 := by decide
  have e0 : (0 : Int32).toInt = 0 := by decide
  have e1 : (1 : Int32).toInt = 1 := by decide
  have e2 : (2 : Int32).toInt = 2 := by decide
  have e3 : (3 : Int32).toInt = 3 := by decide
  have e4 : (4 : Int32).toInt = 4 := by decide
  have e5 : (5 : Int32).toInt = 5 := by decide
  have e6 : (6 : Int32).toInt = 6 := by decide
  have e7 : (7 : Int32).toInt = 7 := by decide
  simp only [← Int32.toInt_inj, e0, e1, e2, e3, e4, e5, e6, e7]
  omega
theorem tw_5 {a0 : Array Value} {Z : State} (hw : ∀ d ∈ tables_1, d.before a0 Z = true) : (Jvm.Cond.initialized "com/example/corestone/corestone/RefusedException$Refusal").before a0 Z = true := hw _ (List.mem_of_getElem? (i := 5) rfl)
theorem tw_6 {a0 : Array Value} {Z : State} (hw : ∀ d ∈ tables_1, d.before a0 Z = true) : (Jvm.Cond.laysStatic "com/example/corestone/corestone/RefusedException$Refusal" "WRONG_PREFIX" "Lcom/example/corestone/corestone/RefusedException$Refusal;").before a0 Z = true := hw _ (List.mem_of_getElem? (i := 6) rfl)
abbrev S_0 (Z : State) (h : Heap) (v : Value) : Prop := Sta Z h "com/example/corestone/corestone/RefusedException$Refusal" "WRONG_PREFIX" "Lcom/example/corestone/corestone/RefusedException$Refusal;" v
abbrev E_0 (Z : State) (h : Heap) (a : Addr) : Prop := Exa Z h a "com/example/corestone/corestone/RefusedException$Refusal"
theorem tw_77 {a0 : Array Value} {Z : State} (hw : ∀ d ∈ tables_1, d.before a0 Z = true) : (Jvm.Cond.laysStatic "com/example/corestone/corestone/RefusedException$Refusal" "INVALID_IDENTIFIER" "Lcom/example/corestone/corestone/RefusedException$Refusal;").before a0 Z = true := hw _ (List.mem_of_getElem? (i := 77) rfl)
abbrev S_1 (Z : State) (h : Heap) (v : Value) : Prop := Sta Z h "com/example/corestone/corestone/RefusedException$Refusal" "INVALID_IDENTIFIER" "Lcom/example/corestone/corestone/RefusedException$Refusal;" v
theorem tw_79 {a0 : Array Value} {Z : State} (hw : ∀ d ∈ tables_1, d.before a0 Z = true) : (Jvm.Cond.laysStatic "com/example/corestone/corestone/RefusedException$Refusal" "INVALID_URL" "Lcom/example/corestone/corestone/RefusedException$Refusal;").before a0 Z = true := hw _ (List.mem_of_getElem? (i := 79) rfl)
abbrev S_2 (Z : State) (h : Heap) (v : Value) : Prop := Sta Z h "com/example/corestone/corestone/RefusedException$Refusal" "INVALID_URL" "Lcom/example/corestone/corestone/RefusedException$Refusal;" v
theorem tw_81 {a0 : Array Value} {Z : State} (hw : ∀ d ∈ tables_1, d.before a0 Z = true) : (Jvm.Cond.laysStatic "com/example/corestone/corestone/RefusedException$Refusal" "INVALID_METADATA" "Lcom/example/corestone/corestone/RefusedException$Refusal;").before a0 Z = true := hw _ (List.mem_of_getElem? (i := 81) rfl)
abbrev S_3 (Z : State) (h : Heap) (v : Value) : Prop := Sta Z h "com/example/corestone/corestone/RefusedException$Refusal" "INVALID_METADATA" "Lcom/example/corestone/corestone/RefusedException$Refusal;" v
theorem tw_83 {a0 : Array Value} {Z : State} (hw : ∀ d ∈ tables_1, d.before a0 Z = true) : (Jvm.Cond.laysStatic "com/example/corestone/corestone/RefusedException$Refusal" "WRONG_DOMAIN" "Lcom/example/corestone/corestone/RefusedException$Refusal;").before a0 Z = true := hw _ (List.mem_of_getElem? (i := 83) rfl)
abbrev S_4 (Z : State) (h : Heap) (v : Value) : Prop := Sta Z h "com/example/corestone/corestone/RefusedException$Refusal" "WRONG_DOMAIN" "Lcom/example/corestone/corestone/RefusedException$Refusal;" v
theorem tw_85 {a0 : Array Value} {Z : State} (hw : ∀ d ∈ tables_1, d.before a0 Z = true) : (Jvm.Cond.laysStatic "com/example/corestone/corestone/RefusedException$Refusal" "QUOTA_EXCEEDED" "Lcom/example/corestone/corestone/RefusedException$Refusal;").before a0 Z = true := hw _ (List.mem_of_getElem? (i := 85) rfl)
abbrev S_5 (Z : State) (h : Heap) (v : Value) : Prop := Sta Z h "com/example/corestone/corestone/RefusedException$Refusal" "QUOTA_EXCEEDED" "Lcom/example/corestone/corestone/RefusedException$Refusal;" v
theorem tw_87 {a0 : Array Value} {Z : State} (hw : ∀ d ∈ tables_1, d.before a0 Z = true) : (Jvm.Cond.laysStatic "com/example/corestone/corestone/RefusedException$Refusal" "FORBIDDEN" "Lcom/example/corestone/corestone/RefusedException$Refusal;").before a0 Z = true := hw _ (List.mem_of_getElem? (i := 87) rfl)
abbrev S_6 (Z : State) (h : Heap) (v : Value) : Prop := Sta Z h "com/example/corestone/corestone/RefusedException$Refusal" "FORBIDDEN" "Lcom/example/corestone/corestone/RefusedException$Refusal;" v
theorem tw_89 {a0 : Array Value} {Z : State} (hw : ∀ d ∈ tables_1, d.before a0 Z = true) : (Jvm.Cond.laysStatic "com/example/corestone/corestone/RefusedException$Refusal" "IDENTIFIER_MISMATCH" "Lcom/example/corestone/corestone/RefusedException$Refusal;").before a0 Z = true := hw _ (List.mem_of_getElem? (i := 89) rfl)
abbrev S_7 (Z : State) (h : Heap) (v : Value) : Prop := Sta Z h "com/example/corestone/corestone/RefusedException$Refusal" "IDENTIFIER_MISMATCH" "Lcom/example/corestone/corestone/RefusedException$Refusal;" v
abbrev S_8 (Z : State) (h : Heap) (v : Value) : Prop := Sta Z h "java/util/Optional" "EMPTY" "Ljava/util/Optional;" v
abbrev E_1 (Z : State) (h : Heap) (a : Addr) : Prop := Exa Z h a "java/util/Optional"
abbrev F_0 (Z : State) (h : Heap) (a : Addr) (v : Value) : Prop := Fld Z h a "java/util/Optional" "value" "Ljava/lang/Object;" v
theorem tw_0 {a0 : Array Value} {Z : State} (hw : ∀ d ∈ tables_1, d.before a0 Z = true) : (Jvm.Cond.methodLink "com/example/corestone/corestone/LineRefusedPinLaw" (34 : Nat) ({ cls := "com/example/corestone/corestone/LineRefusedPinLaw", name := "pick", desc := "(I)Lcom/example/corestone/corestone/RefusedException$Refusal;" } : Jvm.MethodName)).before a0 Z = true := hw _ (List.mem_of_getElem? (i := 0) rfl)
theorem tw_3 {a0 : Array Value} {Z : State} (hw : ∀ d ∈ tables_1, d.before a0 Z = true) : (Jvm.Cond.code ({ cls := "com/example/corestone/corestone/LineRefusedPinLaw", name := "pick", desc := "(I)Lcom/example/corestone/corestone/RefusedException$Refusal;" } : Jvm.MethodName) method_2_code (2 : Nat) (Option.some (Jvm.ClassFile.FieldType.object "com/example/corestone/corestone/RefusedException$Refusal"))).before a0 Z = true := hw _ (List.mem_of_getElem? (i := 3) rfl)
theorem d1_0 : decode method_2_code 0 = .ok (.iload_n 0, 1) := by decide +kernel
theorem d1_1 : decode method_2_code 1 = .ok (.bipush 7, 2) := by decide +kernel
theorem d1_3 : decode method_2_code 3 = .ok (.iand, 1) := by decide +kernel
theorem d1_4 : decode method_2_code 4 = .ok (.istore_n 1, 1) := by decide +kernel
theorem d1_5 : decode method_2_code 5 = .ok (.iload_n 1, 1) := by decide +kernel
theorem d1_6 : decode method_2_code 6 = .ok (.ifCond .ne 7, 3) := by decide +kernel
theorem d1_9 : decode method_2_code 9 = .ok (.getstatic 7, 3) := by decide +kernel
theorem tw_80 {a0 : Array Value} {Z : State} (hw : ∀ d ∈ tables_1, d.before a0 Z = true) : (Jvm.Cond.fieldLink "com/example/corestone/corestone/LineRefusedPinLaw" (7 : Nat) "com/example/corestone/corestone/RefusedException$Refusal" "INVALID_METADATA" "Lcom/example/corestone/corestone/RefusedException$Refusal;").before a0 Z = true := hw _ (List.mem_of_getElem? (i := 80) rfl)
theorem d1_12 : decode method_2_code 12 = .ok (.areturn, 1) := by decide +kernel
abbrev R_0_0_0_0 : Room := { frames := 0, cells := 0, slots := 0, locals := 0 }
abbrev M_0 : MethodName := ⟨"com/example/corestone/corestone/LineRefusedPinLaw", "pick", "(I)Lcom/example/corestone/corestone/RefusedException$Refusal;"⟩
theorem ef1_I (m : MethodId) (x0 : Int32) : entryFrame m #[(.int x0)] 2 = mkF m 0 #[.val (.int x0), .unset] [] := by first | (simp [entryFrame, mkF, argsToLocals, Value.category]; done) | rfl
theorem pn_com_example_corestone_corestone_LineRefusedPinLaw : plainName "com/example/corestone/corestone/LineRefusedPinLaw" = true := by first | (simp [plainName, overriddenIn]; done) | decide +kernel
set_option maxRecDepth 65536 in
set_option maxHeartbeats 40000000 in
theorem rm1_15 (l : Launch) (Z : State) (a0 : Array Value) (hw : ∀ d ∈ tables_1, d.before a0 Z = true) (ws : List Jvm.Cond) (p1 : Int32) (a_INVALID_METADATA : Addr) (h0 : Heap) (n0 : Nat) (Z0 : n0 ≤ h0.size) (f1 : (p1 &&& (7 : Int32)) = (0 : Int32)) (f2 : S_3 Z h0 (.ref a_INVALID_METADATA)) :
    MetFree l M_0 (head1 (Jvm.Cond.code M_0 method_2_code 2 (some (.object "com/example/corestone/corestone/RefusedException$Refusal")) :: ws) R_0_0_0_0) (fun a U => a = #[(.int p1)] ∧ Z.Warmed39 U.vm ∧ U.heap = h0) (fun _ _ _ _ _ => True) (fun _ U o U' => ∃ v L, o = .returned v ∧ QP (some (.ref a_INVALID_METADATA)) h0 n0 v U'.heap L ∧ FrameEnd U o U' L R_0_0_0_0.cells R_0_0_0_0.slots) := by
  refine MetFree.of_bodySF (plainFor_of_name pn_com_example_corestone_corestone_LineRefusedPinLaw) hisR ?_
  intro p e s m args below meth c s₁ Bd hml0 hP hK
  obtain ⟨rfl, hZ, hh⟩ := hP
  have hx := Bd.exec
  have hby := Bd.bytes
  have hml : c.maxLocals = 2 := hml0
  have hown : s.vm.findClass "com/example/corestone/corestone/LineRefusedPinLaw" = some m.cls := findClass_of_methodNamed Bd.named
  have hnm := (name_of_methodNamed Bd.named Bd.method).1
  have X0 : Stand p l e R_0_0_0_0 s m #[(.int p1)] below meth c s₁ [] 0 0 := Stand.of_body Bd
  have e0 : s₁.heap = h0 := by rw [← hh, Bd.state]; rfl
  have N0 := Fr.nil n0
  obtain ⟨T1, X1, e1, st1⟩ := getS2 X0 hx hZ hown (host := "") (Or.inl (tw_80 hw)) Via.refl e0 f2 (g := (mkF m 9 #[.val (.int p1), .val (.int 0)] [])) rfl (hb hby d1_9)
  obtain ⟨fs, hr, hrun, hended, hW, hsame⟩ := X1.leave (v := (some (.ref a_INVALID_METADATA))) (fun h => by rw [Bd.returns] at h; cases h)
  refine ⟨_, _, castTop (ef1_I m p1) ?_, hrun, hended, _, _, rfl, ?_, ⟨_, rfl⟩, hW, hsame.mono (by decide) (by decide)⟩
  · show Steps p.tables e below (s₁.setTop (mkF m 0 #[.val (.int p1), .unset] [])) _
    refine XS.iloadN X0.here hx rfl (hb hby d1_0) rfl ?_
    refine XS.bipush X0.here hx rfl (hb hby d1_1) ?_
    show Steps p.tables e below (s₁.setTop (mkF m 3 #[.val (.int p1), .unset] [(.int 7), (.int p1)])) _
    refine XS.iand X0.here hx rfl (hb hby d1_3) rfl ?_
    show Steps p.tables e below (s₁.setTop (mkF m 4 #[.val (.int p1), .unset] [(.int (p1 &&& (7 : Int32)))])) _
    rw [f1]
    refine XS.istoreN X0.here hx rfl (hb hby d1_4) rfl (l' := #[.val (.int p1), .val (.int 0)]) rfl ?_
    refine XS.iloadN X0.here hx rfl (hb hby d1_5) rfl ?_
    refine XS.ifNo X0.here hx rfl (hb hby d1_6) rfl (by decide) ?_
    show Steps p.tables e below (s₁.setTop (mkF m 9 #[.val (.int p1), .val (.int 0)] [])) _
    refine st1 _ ?_
    show Steps p.tables e below (T1.setTop (mkF m 12 #[.val (.int p1), .val (.int 0)] [(.ref a_INVALID_METADATA)])) _
    jvm_step X1.here [X1.here.top, hx, (hb hby d1_12), X1.method', Bd.returns, Value.isRef, FieldType.isReference]
    first | (intro acts; rw [hr _ acts rfl rfl rfl]) | rw [hr _ _ rfl rfl rfl]
    exact Steps.refl _
  · show QP (some (.ref a_INVALID_METADATA)) h0 n0 _ T1.heap _
    rw [e1]
    exact ⟨rfl, N0, rfl⟩
theorem tw_2 {a0 : Array Value} {Z : State} (hw : ∀ d ∈ tables_1, d.before a0 Z = true) : (Jvm.Cond.initialized "com/example/corestone/corestone/LineRefusedPinLaw").before a0 Z = true := hw _ (List.mem_of_getElem? (i := 2) rfl)
theorem pd_0 : parseMethodDescriptor "(I)Lcom/example/corestone/corestone/RefusedException$Refusal;" = some ⟨[.int], some (.object "com/example/corestone/corestone/RefusedException$Refusal")⟩ := by decide +kernel
theorem tw_1 {a0 : Array Value} {Z : State} (hw : ∀ d ∈ tables_1, d.before a0 Z = true) : (Jvm.Cond.static ({ cls := "com/example/corestone/corestone/LineRefusedPinLaw", name := "pick", desc := "(I)Lcom/example/corestone/corestone/RefusedException$Refusal;" } : Jvm.MethodName)).before a0 Z = true := hw _ (List.mem_of_getElem? (i := 1) rfl)
theorem tw_7 {a0 : Array Value} {Z : State} (hw : ∀ d ∈ tables_1, d.before a0 Z = true) : (Jvm.Cond.methodLink "com/example/corestone/corestone/LineRefusedPinLaw" (40 : Nat) ({ cls := "com/example/corestone/corestone/BulkRequest$Line", name := "refused", desc := "(ILcom/example/corestone/corestone/RefusedException$Refusal;)Lcom/example/corestone/corestone/BulkRequest$Line;" } : Jvm.MethodName)).before a0 Z = true := hw _ (List.mem_of_getElem? (i := 7) rfl)
theorem tw_10 {a0 : Array Value} {Z : State} (hw : ∀ d ∈ tables_1, d.before a0 Z = true) : (Jvm.Cond.code ({ cls := "com/example/corestone/corestone/BulkRequest$Line", name := "refused", desc := "(ILcom/example/corestone/corestone/RefusedException$Refusal;)Lcom/example/corestone/corestone/BulkRequest$Line;" } : Jvm.MethodName) prog_3_method_3_code (2 : Nat) (Option.some (Jvm.ClassFile.FieldType.object "com/example/corestone/corestone/BulkRequest$Line"))).before a0 Z = true := hw _ (List.mem_of_getElem? (i := 10) rfl)
theorem d2_0 : decode prog_3_method_3_code 0 = .ok (.new 8, 3) := by decide +kernel
theorem tw_11 {a0 : Array Value} {Z : State} (hw : ∀ d ∈ tables_1, d.before a0 Z = true) : (Jvm.Cond.classLink "com/example/corestone/corestone/BulkRequest$Line" (8 : Nat) "com/example/corestone/corestone/BulkRequest$Line").before a0 Z = true := hw _ (List.mem_of_getElem? (i := 11) rfl)
theorem tw_12 {a0 : Array Value} {Z : State} (hw : ∀ d ∈ tables_1, d.before a0 Z = true) : (Jvm.Cond.instantiable "com/example/corestone/corestone/BulkRequest$Line" (3 : Nat)).before a0 Z = true := hw _ (List.mem_of_getElem? (i := 12) rfl)
theorem tw_9 {a0 : Array Value} {Z : State} (hw : ∀ d ∈ tables_1, d.before a0 Z = true) : (Jvm.Cond.initialized "com/example/corestone/corestone/BulkRequest$Line").before a0 Z = true := hw _ (List.mem_of_getElem? (i := 9) rfl)
abbrev E_2 (Z : State) (h : Heap) (a : Addr) : Prop := Exa Z h a "com/example/corestone/corestone/BulkRequest$Line"
abbrev F_1 (Z : State) (h : Heap) (a : Addr) (v : Value) : Prop := Fld Z h a "com/example/corestone/corestone/BulkRequest$Line" "number" "I" v
theorem tw_46 {a0 : Array Value} {Z : State} (hw : ∀ d ∈ tables_1, d.before a0 Z = true) : (Jvm.Cond.laysFinal "com/example/corestone/corestone/BulkRequest$Line" "com/example/corestone/corestone/BulkRequest$Line" "number" "I").before a0 Z = true := hw _ (List.mem_of_getElem? (i := 46) rfl)
abbrev F_2 (Z : State) (h : Heap) (a : Addr) (v : Value) : Prop := Fld Z h a "com/example/corestone/corestone/BulkRequest$Line" "handle" "Ljava/util/Optional;" v
theorem tw_48 {a0 : Array Value} {Z : State} (hw : ∀ d ∈ tables_1, d.before a0 Z = true) : (Jvm.Cond.laysFinal "com/example/corestone/corestone/BulkRequest$Line" "com/example/corestone/corestone/BulkRequest$Line" "handle" "Ljava/util/Optional;").before a0 Z = true := hw _ (List.mem_of_getElem? (i := 48) rfl)
abbrev F_3 (Z : State) (h : Heap) (a : Addr) (v : Value) : Prop := Fld Z h a "com/example/corestone/corestone/BulkRequest$Line" "refusal" "Ljava/util/Optional;" v
theorem tw_50 {a0 : Array Value} {Z : State} (hw : ∀ d ∈ tables_1, d.before a0 Z = true) : (Jvm.Cond.laysFinal "com/example/corestone/corestone/BulkRequest$Line" "com/example/corestone/corestone/BulkRequest$Line" "refusal" "Ljava/util/Optional;").before a0 Z = true := hw _ (List.mem_of_getElem? (i := 50) rfl)
theorem d2_3 : decode prog_3_method_3_code 3 = .ok (.dup, 1) := by decide +kernel
theorem d2_4 : decode prog_3_method_3_code 4 = .ok (.iload_n 0, 1) := by decide +kernel
theorem d2_5 : decode prog_3_method_3_code 5 = .ok (.invokestatic 26, 3) := by decide +kernel
theorem tw_13 {a0 : Array Value} {Z : State} (hw : ∀ d ∈ tables_1, d.before a0 Z = true) : (Jvm.Cond.methodLink "com/example/corestone/corestone/BulkRequest$Line" (26 : Nat) ({ cls := "java/util/Optional", name := "empty", desc := "()Ljava/util/Optional;" } : Jvm.MethodName)).before a0 Z = true := hw _ (List.mem_of_getElem? (i := 13) rfl)
theorem tw_16 {a0 : Array Value} {Z : State} (hw : ∀ d ∈ tables_1, d.before a0 Z = true) : (Jvm.Cond.code ({ cls := "java/util/Optional", name := "empty", desc := "()Ljava/util/Optional;" } : Jvm.MethodName) jdk_32_method_1_code (1 : Nat) (Option.some (Jvm.ClassFile.FieldType.object "java/util/Optional"))).before a0 Z = true := hw _ (List.mem_of_getElem? (i := 16) rfl)
theorem d3_0 : decode jdk_32_method_1_code 0 = .ok (.getstatic 1, 3) := by decide +kernel
theorem tw_17 {a0 : Array Value} {Z : State} (hw : ∀ d ∈ tables_1, d.before a0 Z = true) : (Jvm.Cond.fieldLink "java/util/Optional" (1 : Nat) "java/util/Optional" "EMPTY" "Ljava/util/Optional;").before a0 Z = true := hw _ (List.mem_of_getElem? (i := 17) rfl)
theorem d3_3 : decode jdk_32_method_1_code 3 = .ok (.astore_n 0, 1) := by decide +kernel
theorem d3_4 : decode jdk_32_method_1_code 4 = .ok (.aload_n 0, 1) := by decide +kernel
theorem d3_5 : decode jdk_32_method_1_code 5 = .ok (.areturn, 1) := by decide +kernel
abbrev M_1 : MethodName := ⟨"java/util/Optional", "empty", "()Ljava/util/Optional;"⟩
theorem ef3_ (m : MethodId)  : entryFrame m #[] 1 = mkF m 0 #[.unset] [] := by first | (simp [entryFrame, mkF, argsToLocals, Value.category]; done) | rfl
theorem pn_java_util_Optional : plainName "java/util/Optional" = true := by first | (simp [plainName, overriddenIn]; done) | decide +kernel
set_option maxRecDepth 65536 in
set_option maxHeartbeats 40000000 in
theorem rm3_17 (l : Launch) (Z : State) (a0 : Array Value) (hw : ∀ d ∈ tables_1, d.before a0 Z = true) (ws : List Jvm.Cond) (a_EMPTY : Addr) (h0 : Heap) (n0 : Nat) (Z0 : n0 ≤ h0.size) (f1 : S_8 Z h0 (.ref a_EMPTY)) :
    MetFree l M_1 (head1 (Jvm.Cond.code M_1 jdk_32_method_1_code 1 (some (.object "java/util/Optional")) :: ws) R_0_0_0_0) (fun a U => a = #[] ∧ Z.Warmed39 U.vm ∧ U.heap = h0) (fun _ _ _ _ _ => True) (fun _ U o U' => ∃ v L, o = .returned v ∧ QP (some (.ref a_EMPTY)) h0 n0 v U'.heap L ∧ FrameEnd U o U' L R_0_0_0_0.cells R_0_0_0_0.slots) := by
  refine MetFree.of_bodySF (plainFor_of_name pn_java_util_Optional) hisR ?_
  intro p e s m args below meth c s₁ Bd hml0 hP hK
  obtain ⟨rfl, hZ, hh⟩ := hP
  have hx := Bd.exec
  have hby := Bd.bytes
  have hml : c.maxLocals = 1 := hml0
  have hown : s.vm.findClass "java/util/Optional" = some m.cls := findClass_of_methodNamed Bd.named
  have hnm := (name_of_methodNamed Bd.named Bd.method).1
  have X0 : Stand p l e R_0_0_0_0 s m #[] below meth c s₁ [] 0 0 := Stand.of_body Bd
  have e0 : s₁.heap = h0 := by rw [← hh, Bd.state]; rfl
  have N0 := Fr.nil n0
  obtain ⟨T1, X1, e1, st1⟩ := getS2 X0 hx hZ hown (host := "") (Or.inl (tw_17 hw)) Via.refl e0 f1 (g := (mkF m 0 #[.unset] [])) rfl (hb hby d3_0)
  obtain ⟨fs, hr, hrun, hended, hW, hsame⟩ := X1.leave (v := (some (.ref a_EMPTY))) (fun h => by rw [Bd.returns] at h; cases h)
  refine ⟨_, _, castTop (ef3_ m ) ?_, hrun, hended, _, _, rfl, ?_, ⟨_, rfl⟩, hW, hsame.mono (by decide) (by decide)⟩
  · show Steps p.tables e below (s₁.setTop (mkF m 0 #[.unset] [])) _
    refine st1 _ ?_
    refine XS.astoreN X1.here hx rfl (hb hby d3_3) rfl rfl (l' := #[.val (.ref a_EMPTY)]) rfl ?_
    refine XS.aloadN X1.here hx rfl (hb hby d3_4) rfl rfl ?_
    show Steps p.tables e below (T1.setTop (mkF m 5 #[.val (.ref a_EMPTY)] [(.ref a_EMPTY)])) _
    jvm_step X1.here [X1.here.top, hx, (hb hby d3_5), X1.method', Bd.returns, Value.isRef, FieldType.isReference]
    first | (intro acts; rw [hr _ acts rfl rfl rfl]) | rw [hr _ _ rfl rfl rfl]
    exact Steps.refl _
  · show QP (some (.ref a_EMPTY)) h0 n0 _ T1.heap _
    rw [e1]
    exact ⟨rfl, N0, rfl⟩
theorem tw_15 {a0 : Array Value} {Z : State} (hw : ∀ d ∈ tables_1, d.before a0 Z = true) : (Jvm.Cond.initialized "java/util/Optional").before a0 Z = true := hw _ (List.mem_of_getElem? (i := 15) rfl)
theorem pd_1 : parseMethodDescriptor "()Ljava/util/Optional;" = some ⟨[], some (.object "java/util/Optional")⟩ := by decide +kernel
theorem tw_14 {a0 : Array Value} {Z : State} (hw : ∀ d ∈ tables_1, d.before a0 Z = true) : (Jvm.Cond.static ({ cls := "java/util/Optional", name := "empty", desc := "()Ljava/util/Optional;" } : Jvm.MethodName)).before a0 Z = true := hw _ (List.mem_of_getElem? (i := 14) rfl)
theorem d2_8 : decode prog_3_method_3_code 8 = .ok (.aload_n 1, 1) := by decide +kernel
theorem d2_9 : decode prog_3_method_3_code 9 = .ok (.invokestatic 20, 3) := by decide +kernel
theorem tw_18 {a0 : Array Value} {Z : State} (hw : ∀ d ∈ tables_1, d.before a0 Z = true) : (Jvm.Cond.methodLink "com/example/corestone/corestone/BulkRequest$Line" (20 : Nat) ({ cls := "java/util/Optional", name := "of", desc := "(Ljava/lang/Object;)Ljava/util/Optional;" } : Jvm.MethodName)).before a0 Z = true := hw _ (List.mem_of_getElem? (i := 18) rfl)
theorem tw_20 {a0 : Array Value} {Z : State} (hw : ∀ d ∈ tables_1, d.before a0 Z = true) : (Jvm.Cond.code ({ cls := "java/util/Optional", name := "of", desc := "(Ljava/lang/Object;)Ljava/util/Optional;" } : Jvm.MethodName) jdk_32_method_3_code (1 : Nat) (Option.some (Jvm.ClassFile.FieldType.object "java/util/Optional"))).before a0 Z = true := hw _ (List.mem_of_getElem? (i := 20) rfl)
theorem d4_0 : decode jdk_32_method_3_code 0 = .ok (.new 2, 3) := by decide +kernel
theorem tw_21 {a0 : Array Value} {Z : State} (hw : ∀ d ∈ tables_1, d.before a0 Z = true) : (Jvm.Cond.classLink "java/util/Optional" (2 : Nat) "java/util/Optional").before a0 Z = true := hw _ (List.mem_of_getElem? (i := 21) rfl)
theorem tw_22 {a0 : Array Value} {Z : State} (hw : ∀ d ∈ tables_1, d.before a0 Z = true) : (Jvm.Cond.instantiable "java/util/Optional" (1 : Nat)).before a0 Z = true := hw _ (List.mem_of_getElem? (i := 22) rfl)
theorem tw_35 {a0 : Array Value} {Z : State} (hw : ∀ d ∈ tables_1, d.before a0 Z = true) : (Jvm.Cond.laysFinal "java/util/Optional" "java/util/Optional" "value" "Ljava/lang/Object;").before a0 Z = true := hw _ (List.mem_of_getElem? (i := 35) rfl)
theorem d4_3 : decode jdk_32_method_3_code 3 = .ok (.dup, 1) := by decide +kernel
theorem d4_4 : decode jdk_32_method_3_code 4 = .ok (.aload_n 0, 1) := by decide +kernel
theorem d4_5 : decode jdk_32_method_3_code 5 = .ok (.invokestatic 17, 3) := by decide +kernel
theorem tw_23 {a0 : Array Value} {Z : State} (hw : ∀ d ∈ tables_1, d.before a0 Z = true) : (Jvm.Cond.methodLink "java/util/Optional" (17 : Nat) ({ cls := "java/util/Objects", name := "requireNonNull", desc := "(Ljava/lang/Object;)Ljava/lang/Object;" } : Jvm.MethodName)).before a0 Z = true := hw _ (List.mem_of_getElem? (i := 23) rfl)
theorem tw_26 {a0 : Array Value} {Z : State} (hw : ∀ d ∈ tables_1, d.before a0 Z = true) : (Jvm.Cond.code ({ cls := "java/util/Objects", name := "requireNonNull", desc := "(Ljava/lang/Object;)Ljava/lang/Object;" } : Jvm.MethodName) jdk_31_method_10_code (1 : Nat) (Option.some (Jvm.ClassFile.FieldType.object "java/lang/Object"))).before a0 Z = true := hw _ (List.mem_of_getElem? (i := 26) rfl)
theorem d5_0 : decode jdk_31_method_10_code 0 = .ok (.aload_n 0, 1) := by decide +kernel
theorem d5_1 : decode jdk_31_method_10_code 1 = .ok (.ifnonnull 11, 3) := by decide +kernel
theorem d5_12 : decode jdk_31_method_10_code 12 = .ok (.aload_n 0, 1) := by decide +kernel
theorem d5_13 : decode jdk_31_method_10_code 13 = .ok (.areturn, 1) := by decide +kernel
abbrev M_2 : MethodName := ⟨"java/util/Objects", "requireNonNull", "(Ljava/lang/Object;)Ljava/lang/Object;"⟩
theorem ef5_R (m : MethodId) (x0 : Addr) : entryFrame m #[(.ref x0)] 1 = mkF m 0 #[.val (.ref x0)] [] := by first | (simp [entryFrame, mkF, argsToLocals, Value.category]; done) | rfl
theorem pn_java_util_Objects : plainName "java/util/Objects" = true := by first | (simp [plainName, overriddenIn]; done) | decide +kernel
set_option maxRecDepth 65536 in
set_option maxHeartbeats 40000000 in
theorem rm5_19 (l : Launch) (Z : State) (a0 : Array Value) (hw : ∀ d ∈ tables_1, d.before a0 Z = true) (ws : List Jvm.Cond) (a_INVALID_METADATA : Addr) (h0 : Heap) (n0 : Nat) (Z0 : n0 ≤ h0.size) :
    MetFree l M_2 (head1 (Jvm.Cond.code M_2 jdk_31_method_10_code 1 (some (.object "java/lang/Object")) :: ws) R_0_0_0_0) (fun a U => a = #[(.ref a_INVALID_METADATA)] ∧ Z.Warmed39 U.vm ∧ U.heap = h0) (fun _ _ _ _ _ => True) (fun _ U o U' => ∃ v L, o = .returned v ∧ QP (some (.ref a_INVALID_METADATA)) h0 n0 v U'.heap L ∧ FrameEnd U o U' L R_0_0_0_0.cells R_0_0_0_0.slots) := by
  refine MetFree.of_bodySF (plainFor_of_name pn_java_util_Objects) hisR ?_
  intro p e s m args below meth c s₁ Bd hml0 hP hK
  obtain ⟨rfl, hZ, hh⟩ := hP
  have hx := Bd.exec
  have hby := Bd.bytes
  have hml : c.maxLocals = 1 := hml0
  have hown : s.vm.findClass "java/util/Objects" = some m.cls := findClass_of_methodNamed Bd.named
  have hnm := (name_of_methodNamed Bd.named Bd.method).1
  have X0 : Stand p l e R_0_0_0_0 s m #[(.ref a_INVALID_METADATA)] below meth c s₁ [] 0 0 := Stand.of_body Bd
  have e0 : s₁.heap = h0 := by rw [← hh, Bd.state]; rfl
  have N0 := Fr.nil n0
  obtain ⟨fs, hr, hrun, hended, hW, hsame⟩ := X0.leave (v := (some (.ref a_INVALID_METADATA))) (fun h => by rw [Bd.returns] at h; cases h)
  refine ⟨_, _, castTop (ef5_R m a_INVALID_METADATA) ?_, hrun, hended, _, _, rfl, ?_, ⟨_, rfl⟩, hW, hsame.mono (by decide) (by decide)⟩
  · show Steps p.tables e below (s₁.setTop (mkF m 0 #[.val (.ref a_INVALID_METADATA)] [])) _
    refine XS.aloadN X0.here hx rfl (hb hby d5_0) rfl rfl ?_
    refine XS.ifnonnullYes X0.here hx rfl (pc0 := 1) (pc' := 12) rfl (hb hby d5_1) rfl (by decide) (by decide) ?_
    refine XS.aloadN X0.here hx rfl (hb hby d5_12) rfl rfl ?_
    show Steps p.tables e below (s₁.setTop (mkF m 13 #[.val (.ref a_INVALID_METADATA)] [(.ref a_INVALID_METADATA)])) _
    jvm_step X0.here [X0.here.top, hx, (hb hby d5_13), X0.method', Bd.returns, Value.isRef, FieldType.isReference]
    first | (intro acts; rw [hr _ acts rfl rfl rfl]) | rw [hr _ _ rfl rfl rfl]
    exact Steps.refl _
  · show QP (some (.ref a_INVALID_METADATA)) h0 n0 _ s₁.heap _
    rw [e0]
    exact ⟨rfl, N0, rfl⟩
theorem tw_25 {a0 : Array Value} {Z : State} (hw : ∀ d ∈ tables_1, d.before a0 Z = true) : (Jvm.Cond.initialized "java/util/Objects").before a0 Z = true := hw _ (List.mem_of_getElem? (i := 25) rfl)
theorem pd_2 : parseMethodDescriptor "(Ljava/lang/Object;)Ljava/lang/Object;" = some ⟨[(.object "java/lang/Object")], some (.object "java/lang/Object")⟩ := by decide +kernel
theorem tw_24 {a0 : Array Value} {Z : State} (hw : ∀ d ∈ tables_1, d.before a0 Z = true) : (Jvm.Cond.static ({ cls := "java/util/Objects", name := "requireNonNull", desc := "(Ljava/lang/Object;)Ljava/lang/Object;" } : Jvm.MethodName)).before a0 Z = true := hw _ (List.mem_of_getElem? (i := 24) rfl)
theorem d4_8 : decode jdk_32_method_3_code 8 = .ok (.invokespecial 23, 3) := by decide +kernel
theorem tw_27 {a0 : Array Value} {Z : State} (hw : ∀ d ∈ tables_1, d.before a0 Z = true) : (Jvm.Cond.methodLink "java/util/Optional" (23 : Nat) ({ cls := "java/util/Optional", name := "<init>", desc := "(Ljava/lang/Object;)V" } : Jvm.MethodName)).before a0 Z = true := hw _ (List.mem_of_getElem? (i := 27) rfl)
theorem tw_30 {a0 : Array Value} {Z : State} (hw : ∀ d ∈ tables_1, d.before a0 Z = true) : (Jvm.Cond.code ({ cls := "java/util/Optional", name := "<init>", desc := "(Ljava/lang/Object;)V" } : Jvm.MethodName) jdk_32_method_2_code (2 : Nat) (Option.none : Option Jvm.ClassFile.FieldType)).before a0 Z = true := hw _ (List.mem_of_getElem? (i := 30) rfl)
theorem d6_0 : decode jdk_32_method_2_code 0 = .ok (.aload_n 0, 1) := by decide +kernel
theorem d6_1 : decode jdk_32_method_2_code 1 = .ok (.invokespecial 7, 3) := by decide +kernel
theorem tw_31 {a0 : Array Value} {Z : State} (hw : ∀ d ∈ tables_1, d.before a0 Z = true) : (Jvm.Cond.methodLink "java/util/Optional" (7 : Nat) ({ cls := "java/lang/Object", name := "<init>", desc := "()V" } : Jvm.MethodName)).before a0 Z = true := hw _ (List.mem_of_getElem? (i := 31) rfl)
theorem tw_33 {a0 : Array Value} {Z : State} (hw : ∀ d ∈ tables_1, d.before a0 Z = true) : (Jvm.Cond.code ({ cls := "java/lang/Object", name := "<init>", desc := "()V" } : Jvm.MethodName) object_method_1_code (1 : Nat) (Option.none : Option Jvm.ClassFile.FieldType)).before a0 Z = true := hw _ (List.mem_of_getElem? (i := 33) rfl)
theorem tw_32 {a0 : Array Value} {Z : State} (hw : ∀ d ∈ tables_1, d.before a0 Z = true) : (Jvm.Cond.instanceMethod ({ cls := "java/lang/Object", name := "<init>", desc := "()V" } : Jvm.MethodName)).before a0 Z = true := hw _ (List.mem_of_getElem? (i := 32) rfl)
theorem d6_4 : decode jdk_32_method_2_code 4 = .ok (.aload_n 0, 1) := by decide +kernel
theorem d6_5 : decode jdk_32_method_2_code 5 = .ok (.aload_n 1, 1) := by decide +kernel
theorem d6_6 : decode jdk_32_method_2_code 6 = .ok (.putfield 13, 3) := by decide +kernel
theorem tw_34 {a0 : Array Value} {Z : State} (hw : ∀ d ∈ tables_1, d.before a0 Z = true) : (Jvm.Cond.fieldLink "java/util/Optional" (13 : Nat) "java/util/Optional" "value" "Ljava/lang/Object;").before a0 Z = true := hw _ (List.mem_of_getElem? (i := 34) rfl)
theorem d6_9 : decode jdk_32_method_2_code 9 = .ok (.return_, 1) := by decide +kernel
abbrev R_1_0_0_12 : Room := { frames := 1, cells := 0, slots := 0, locals := 12 }
abbrev M_3 : MethodName := ⟨"java/util/Optional", "<init>", "(Ljava/lang/Object;)V"⟩
theorem ef6_RR (m : MethodId) (x0 : Addr) (x1 : Addr) : entryFrame m #[(.ref x0), (.ref x1)] 2 = mkF m 0 #[.val (.ref x0), .val (.ref x1)] [] := by first | (simp [entryFrame, mkF, argsToLocals, Value.category]; done) | rfl
def Q6_21 (Z : State) (c0_a : Addr) (a_INVALID_METADATA : Addr) (h0 : Heap) (n0 : Nat) (v : Option Value) (h : Heap) (L : List Loc) : Prop := v = none ∧ Fr n0 L ∧ Keep h0 h [c0_a] ∧ F_0 Z h c0_a (.ref a_INVALID_METADATA)
set_option maxRecDepth 65536 in
set_option maxHeartbeats 40000000 in
theorem rm6_20 (l : Launch) (Z : State) (a0 : Array Value) (hw : ∀ d ∈ tables_1, d.before a0 Z = true) (ws : List Jvm.Cond) (c0_a : Addr) (a_INVALID_METADATA : Addr) (h0 : Heap) (n0 : Nat) (Z0 : n0 ≤ h0.size) (f1 : F_0 Z h0 c0_a .null) (f2 : E_1 Z h0 c0_a) (f3 : n0 ≤ c0_a) :
    MetFree l M_3 (head1 (Jvm.Cond.code M_3 jdk_32_method_2_code 2 none :: ws) R_1_0_0_12) (fun a U => a = #[(.ref c0_a), (.ref a_INVALID_METADATA)] ∧ Z.Warmed39 U.vm ∧ U.heap = h0) (fun _ _ _ _ _ => True) (fun _ U o U' => ∃ v L, o = .returned v ∧ Q6_21 Z c0_a a_INVALID_METADATA h0 n0 v U'.heap L ∧ FrameEnd U o U' L R_1_0_0_12.cells R_1_0_0_12.slots) := by
  refine MetFree.of_bodySF (plainFor_of_name pn_java_util_Optional) hisR ?_
  intro p e s m args below meth c s₁ Bd hml0 hP hK
  obtain ⟨rfl, hZ, hh⟩ := hP
  have hx := Bd.exec
  have hby := Bd.bytes
  have hml : c.maxLocals = 2 := hml0
  have hown : s.vm.findClass "java/util/Optional" = some m.cls := findClass_of_methodNamed Bd.named
  have hnm := (name_of_methodNamed Bd.named Bd.method).1
  have X0 : Stand p l e R_1_0_0_12 s m #[(.ref c0_a), (.ref a_INVALID_METADATA)] below meth c s₁ [] 0 0 := Stand.of_body Bd
  have e0 : s₁.heap = h0 := by rw [← hh, Bd.state]; rfl
  have N0 := Fr.nil n0
  obtain ⟨T1, X1, e1, st1⟩ := initO X0 hx hZ hown (tw_31 hw) (tw_32 hw) (tw_33 hw) e0 (g := (mkF m 1 #[.val (.ref c0_a), .val (.ref a_INVALID_METADATA)] [(.ref c0_a)])) rfl (by rw [hml]; rfl) rfl (hb hby d6_1) (by decide) (W := 0) (by show 2 * 0 + _ ≤ _; exact Nat.le_of_eq rfl) (by decide)
  obtain ⟨T2, h2, X2, e2, W2, st2⟩ := putF X1 hx hZ hown (host := "") (Or.inl (tw_34 hw)) Via.refl e1 f1 f2 (Or.inr ⟨(tw_35 hw), rfl, hnm⟩) (tw_22 hw) (ty := (.object "java/lang/Object")) (by decide) rfl rfl (g := (mkF m 6 #[.val (.ref c0_a), .val (.ref a_INVALID_METADATA)] [(.ref a_INVALID_METADATA), (.ref c0_a)])) rfl rfl (hb hby d6_6)
  have Fw2 : F_0 Z h2 c0_a (.ref a_INVALID_METADATA) := Fld.same W2 f1
  have KK2 : Keep h0 h2 [c0_a] := (Keep.refl h0 [c0_a]).wr W2 (Or.inl (List.mem_of_getElem? (i := 0) rfl))
  have N2 := Fr.snoc X2 N0 f3
  obtain ⟨fs, hr, hrun, hended, hW, hsame⟩ := X2.leave (v := none) (fun _ => rfl)
  refine ⟨_, _, castTop (ef6_RR m c0_a a_INVALID_METADATA) ?_, hrun, hended, _, _, rfl, ?_, ⟨_, rfl⟩, hW, hsame.mono (by decide) (by decide)⟩
  · show Steps p.tables e below (s₁.setTop (mkF m 0 #[.val (.ref c0_a), .val (.ref a_INVALID_METADATA)] [])) _
    refine XS.aloadN X0.here hx rfl (hb hby d6_0) rfl rfl ?_
    show Steps p.tables e below (s₁.setTop (mkF m 1 #[.val (.ref c0_a), .val (.ref a_INVALID_METADATA)] [(.ref c0_a)])) _
    refine st1 _ ?_
    refine XS.aloadN X1.here hx rfl (hb hby d6_4) rfl rfl ?_
    refine XS.aloadN X1.here hx rfl (hb hby d6_5) rfl rfl ?_
    show Steps p.tables e below (T1.setTop (mkF m 6 #[.val (.ref c0_a), .val (.ref a_INVALID_METADATA)] [(.ref a_INVALID_METADATA), (.ref c0_a)])) _
    refine st2 _ ?_
    show Steps p.tables e below (T2.setTop (mkF m 9 #[.val (.ref c0_a), .val (.ref a_INVALID_METADATA)] [])) _
    exact X2.returnOut hx Bd.returns (hb hby d6_9) hr
  · show Q6_21 Z c0_a a_INVALID_METADATA h0 n0 _ T2.heap _
    rw [e2]
    exact ⟨rfl, N2, KK2, Fw2⟩
theorem pd_3 : parseMethodDescriptor "(Ljava/lang/Object;)V" = some ⟨[(.object "java/lang/Object")], none⟩ := by decide +kernel
theorem tw_28 {a0 : Array Value} {Z : State} (hw : ∀ d ∈ tables_1, d.before a0 Z = true) : (Jvm.Cond.instanceMethod ({ cls := "java/util/Optional", name := "<init>", desc := "(Ljava/lang/Object;)V" } : Jvm.MethodName)).before a0 Z = true := hw _ (List.mem_of_getElem? (i := 28) rfl)
theorem d4_11 : decode jdk_32_method_3_code 11 = .ok (.areturn, 1) := by decide +kernel
abbrev R_2_1_1_26 : Room := { frames := 2, cells := 1, slots := 1, locals := 26 }
abbrev M_4 : MethodName := ⟨"java/util/Optional", "of", "(Ljava/lang/Object;)Ljava/util/Optional;"⟩
theorem ef4_R (m : MethodId) (x0 : Addr) : entryFrame m #[(.ref x0)] 1 = mkF m 0 #[.val (.ref x0)] [] := by first | (simp [entryFrame, mkF, argsToLocals, Value.category]; done) | rfl
def Q4_23 (Z : State) (a_INVALID_METADATA : Addr) (h0 : Heap) (n0 : Nat) (v : Option Value) (h : Heap) (L : List Loc) : Prop := ∃ (b18 : Addr), v = (some (.ref b18)) ∧ Fr n0 L ∧ Keep h0 h [] ∧ h0.size ≤ b18 ∧ E_1 Z h b18 ∧ F_0 Z h b18 (.ref a_INVALID_METADATA)
set_option maxRecDepth 65536 in
set_option maxHeartbeats 40000000 in
theorem rm4_22 (l : Launch) (Z : State) (a0 : Array Value) (hw : ∀ d ∈ tables_1, d.before a0 Z = true) (ws : List Jvm.Cond) (a_INVALID_METADATA : Addr) (h0 : Heap) (n0 : Nat) (Z0 : n0 ≤ h0.size) :
    MetFree l M_4 (head1 (Jvm.Cond.code M_4 jdk_32_method_3_code 1 (some (.object "java/util/Optional")) :: ws) R_2_1_1_26) (fun a U => a = #[(.ref a_INVALID_METADATA)] ∧ Z.Warmed39 U.vm ∧ U.heap = h0) (fun _ _ _ _ _ => True) (fun _ U o U' => ∃ v L, o = .returned v ∧ Q4_23 Z a_INVALID_METADATA h0 n0 v U'.heap L ∧ FrameEnd U o U' L R_2_1_1_26.cells R_2_1_1_26.slots) := by
  refine MetFree.of_bodySF (plainFor_of_name pn_java_util_Optional) hisR ?_
  intro p e s m args below meth c s₁ Bd hml0 hP hK
  obtain ⟨rfl, hZ, hh⟩ := hP
  have hx := Bd.exec
  have hby := Bd.bytes
  have hml : c.maxLocals = 1 := hml0
  have hown : s.vm.findClass "java/util/Optional" = some m.cls := findClass_of_methodNamed Bd.named
  have hnm := (name_of_methodNamed Bd.named Bd.method).1
  have X0 : Stand p l e R_2_1_1_26 s m #[(.ref a_INVALID_METADATA)] below meth c s₁ [] 0 0 := Stand.of_body Bd
  have e0 : s₁.heap = h0 := by rw [← hh, Bd.state]; rfl
  have N0 := Fr.nil n0
  obtain ⟨T1, h1, X1, e1, E1, A1, D1, -, st1⟩ := newO X0 hx hZ hown (tw_21 hw) (tw_22 hw) (tw_15 hw) e0 (g := (mkF m 0 #[.val (.ref a_INVALID_METADATA)] [])) rfl (hb hby d4_0) (by decide) (by decide)
  obtain ⟨b18, g1⟩ : ∃ z, z = h0.size := ⟨_, rfl⟩
  rw [← g1] at A1 D1 st1
  have sz_b18 : h0.size ≤ b18 := Nat.le_trans (Nat.le_refl _) (Nat.le_of_eq g1.symm)
  have g_b18 : n0 ≤ b18 := Nat.le_trans Z0 sz_b18
  have KK1 : Keep h0 h1 [] := (Keep.refl h0 []).ext E1
  have F1_35 : F_0 Z h1 b18 .null := D1 (Or.inr (tw_35 hw)) (ty := (.object "java/lang/Object")) (by decide)
  -- pc 5: java/util/Objects.requireNonNull
  obtain ⟨_, _, ⟨T2, L2, k2, n2⟩, -, X2, ⟨Lc2, hQ2, l2, y2, z2⟩, st2⟩ := Jvm.LawKit.callS X1 hx (y := M_2) hown (mvT hZ (tw_23 hw)) (mvT hZ (tw_24 hw)) (mvT hZ (tw_25 hw)) (mvT hZ (tw_26 hw)) (by decide) (backOf (W := 2) (rm5_19 l Z a0 hw [] a_INVALID_METADATA h1 n0 (Nat.le_trans Z0 KK1.1) ) hZ (tw_26 hw) (tw_25 hw) (by decide) (by decide)) (g := (mkF m 5 #[.val (.ref a_INVALID_METADATA)] [(.ref a_INVALID_METADATA), (.ref b18), (.ref b18)])) rfl (by rw [hml]; rfl) (argsL := [(.ref a_INVALID_METADATA)]) (rest := [(.ref b18), (.ref b18)]) (lenOf pd_2 rfl) rfl (by show 2 * 0 + _ ≤ _; exact Nat.le_of_eq rfl) (hb hby d4_5) (fun _ _ => ⟨rfl, e1, (by decide : 1 + 0 ≤ _), (by decide : 1 + 0 ≤ _)⟩)
  dsimp only [Pt.U, Pt.locs, Pt.cells, Pt.slots] at X2 l2 y2 z2 st2 hQ2
  subst l2 y2 z2
  obtain ⟨rfl, Nq2, e2⟩ := hQ2
  have N2 := Fr.app N0 Nq2
  -- pc 8: java/util/Optional.<init>
  obtain ⟨_, _, ⟨T3, L3, k3, n3⟩, -, X3, ⟨Lc3, hQ3, l3, y3, z3⟩, st3⟩ := X2.specialBack hx (y := M_3) rfl hown (mvT hZ (tw_27 hw)) (mvT hZ (tw_28 hw)) (mvT hZ (tw_30 hw)) (by decide) (backOf (W := 1) (rm6_20 l Z a0 hw [] b18 a_INVALID_METADATA h1 n0 (Nat.le_trans Z0 KK1.1) F1_35 A1 g_b18) hZ (tw_30 hw) (tw_15 hw) (by decide) (by decide)) (g := (mkF m 8 #[.val (.ref a_INVALID_METADATA)] [(.ref a_INVALID_METADATA), (.ref b18), (.ref b18)])) rfl (by rw [hml]; rfl) (Steps.refl _) (a := b18) (argsL := [(.ref a_INVALID_METADATA)]) (rest := [(.ref b18)]) (lenOf pd_3 rfl) rfl (by show 2 * 0 + _ ≤ _; exact Nat.le_of_eq rfl) (hb hby d4_8) (fun _ _ => ⟨rfl, e2, (by decide : 1 + 0 ≤ _), (by decide : 1 + 0 ≤ _)⟩)
  dsimp only [Pt.U, Pt.locs, Pt.cells, Pt.slots] at X3 l3 y3 z3 st3 hQ3
  subst l3 y3 z3
  obtain ⟨rfl, Nq3, K3, o3_0⟩ := hQ3
  have N3 := Fr.app N2 Nq3
  have KK3 : Keep h0 T3.heap [] := KK1.trans K3 (fun x hx => (List.mem_cons.mp hx).elim (fun q => q ▸ (Or.inr sz_b18)) (fun hx => nomatch hx))
  have u4 : E_1 Z T3.heap b18 := Exa.keep A1 K3
  obtain ⟨fs, hr, hrun, hended, hW, hsame⟩ := X3.leave (v := (some (.ref b18))) (fun h => by rw [Bd.returns] at h; cases h)
  refine ⟨_, _, castTop (ef4_R m a_INVALID_METADATA) ?_, hrun, hended, _, _, rfl, ?_, ⟨_, rfl⟩, hW, hsame.mono (by decide) (by decide)⟩
  · show Steps p.tables e below (s₁.setTop (mkF m 0 #[.val (.ref a_INVALID_METADATA)] [])) _
    refine st1 _ ?_
    refine XS.dup X1.here hx rfl (hb hby d4_3) rfl rfl ?_
    refine XS.aloadN X1.here hx rfl (hb hby d4_4) rfl rfl ?_
    show Steps p.tables e below (T1.setTop (mkF m 5 #[.val (.ref a_INVALID_METADATA)] [(.ref a_INVALID_METADATA), (.ref b18), (.ref b18)])) _
    refine st2 _ ?_
    show Steps p.tables e below (T2.setTop (mkF m 8 #[.val (.ref a_INVALID_METADATA)] [(.ref a_INVALID_METADATA), (.ref b18), (.ref b18)])) _
    refine st3.trans ?_
    show Steps p.tables e below (T3.setTop (mkF m 11 #[.val (.ref a_INVALID_METADATA)] [(.ref b18)])) _
    jvm_step X3.here [X3.here.top, hx, (hb hby d4_11), X3.method', Bd.returns, Value.isRef, FieldType.isReference]
    first | (intro acts; rw [hr _ acts rfl rfl rfl]) | rw [hr _ _ rfl rfl rfl]
    exact Steps.refl _
  · show Q4_23 Z a_INVALID_METADATA h0 n0 _ T3.heap _
    exact ⟨b18, rfl, N3, KK3, sz_b18, u4, o3_0⟩
theorem pd_4 : parseMethodDescriptor "(Ljava/lang/Object;)Ljava/util/Optional;" = some ⟨[(.object "java/lang/Object")], some (.object "java/util/Optional")⟩ := by decide +kernel
theorem tw_19 {a0 : Array Value} {Z : State} (hw : ∀ d ∈ tables_1, d.before a0 Z = true) : (Jvm.Cond.static ({ cls := "java/util/Optional", name := "of", desc := "(Ljava/lang/Object;)Ljava/util/Optional;" } : Jvm.MethodName)).before a0 Z = true := hw _ (List.mem_of_getElem? (i := 19) rfl)
theorem d2_12 : decode prog_3_method_3_code 12 = .ok (.invokespecial 30, 3) := by decide +kernel
theorem tw_36 {a0 : Array Value} {Z : State} (hw : ∀ d ∈ tables_1, d.before a0 Z = true) : (Jvm.Cond.methodLink "com/example/corestone/corestone/BulkRequest$Line" (30 : Nat) ({ cls := "com/example/corestone/corestone/BulkRequest$Line", name := "<init>", desc := "(ILjava/util/Optional;Ljava/util/Optional;)V" } : Jvm.MethodName)).before a0 Z = true := hw _ (List.mem_of_getElem? (i := 36) rfl)
theorem tw_38 {a0 : Array Value} {Z : State} (hw : ∀ d ∈ tables_1, d.before a0 Z = true) : (Jvm.Cond.code ({ cls := "com/example/corestone/corestone/BulkRequest$Line", name := "<init>", desc := "(ILjava/util/Optional;Ljava/util/Optional;)V" } : Jvm.MethodName) prog_3_method_1_code (4 : Nat) (Option.none : Option Jvm.ClassFile.FieldType)).before a0 Z = true := hw _ (List.mem_of_getElem? (i := 38) rfl)
theorem d8_0 : decode prog_3_method_1_code 0 = .ok (.aload_n 0, 1) := by decide +kernel
theorem d8_1 : decode prog_3_method_1_code 1 = .ok (.invokespecial 1, 3) := by decide +kernel
theorem tw_39 {a0 : Array Value} {Z : State} (hw : ∀ d ∈ tables_1, d.before a0 Z = true) : (Jvm.Cond.methodLink "com/example/corestone/corestone/BulkRequest$Line" (1 : Nat) ({ cls := "java/lang/Record", name := "<init>", desc := "()V" } : Jvm.MethodName)).before a0 Z = true := hw _ (List.mem_of_getElem? (i := 39) rfl)
theorem tw_43 {a0 : Array Value} {Z : State} (hw : ∀ d ∈ tables_1, d.before a0 Z = true) : (Jvm.Cond.code ({ cls := "java/lang/Record", name := "<init>", desc := "()V" } : Jvm.MethodName) jdk_30_method_1_code (1 : Nat) (Option.none : Option Jvm.ClassFile.FieldType)).before a0 Z = true := hw _ (List.mem_of_getElem? (i := 43) rfl)
theorem d9_0 : decode jdk_30_method_1_code 0 = .ok (.aload_n 0, 1) := by decide +kernel
theorem d9_1 : decode jdk_30_method_1_code 1 = .ok (.invokespecial 1, 3) := by decide +kernel
theorem tw_44 {a0 : Array Value} {Z : State} (hw : ∀ d ∈ tables_1, d.before a0 Z = true) : (Jvm.Cond.methodLink "java/lang/Record" (1 : Nat) ({ cls := "java/lang/Object", name := "<init>", desc := "()V" } : Jvm.MethodName)).before a0 Z = true := hw _ (List.mem_of_getElem? (i := 44) rfl)
theorem d9_4 : decode jdk_30_method_1_code 4 = .ok (.return_, 1) := by decide +kernel
abbrev M_5 : MethodName := ⟨"java/lang/Record", "<init>", "()V"⟩
theorem ef9_R (m : MethodId) (x0 : Addr) : entryFrame m #[(.ref x0)] 1 = mkF m 0 #[.val (.ref x0)] [] := by first | (simp [entryFrame, mkF, argsToLocals, Value.category]; done) | rfl
theorem pn_java_lang_Record : plainName "java/lang/Record" = true := by first | (simp [plainName, overriddenIn]; done) | decide +kernel
set_option maxRecDepth 65536 in
set_option maxHeartbeats 40000000 in
theorem rm9_25 (l : Launch) (Z : State) (a0 : Array Value) (hw : ∀ d ∈ tables_1, d.before a0 Z = true) (ws : List Jvm.Cond) (c0_a : Addr) (h0 : Heap) (n0 : Nat) (Z0 : n0 ≤ h0.size) :
    MetFree l M_5 (head1 (Jvm.Cond.code M_5 jdk_30_method_1_code 1 none :: ws) R_1_0_0_12) (fun a U => a = #[(.ref c0_a)] ∧ Z.Warmed39 U.vm ∧ U.heap = h0) (fun _ _ _ _ _ => True) (fun _ U o U' => ∃ v L, o = .returned v ∧ QP none h0 n0 v U'.heap L ∧ FrameEnd U o U' L R_1_0_0_12.cells R_1_0_0_12.slots) := by
  refine MetFree.of_bodySF (plainFor_of_name pn_java_lang_Record) hisR ?_
  intro p e s m args below meth c s₁ Bd hml0 hP hK
  obtain ⟨rfl, hZ, hh⟩ := hP
  have hx := Bd.exec
  have hby := Bd.bytes
  have hml : c.maxLocals = 1 := hml0
  have hown : s.vm.findClass "java/lang/Record" = some m.cls := findClass_of_methodNamed Bd.named
  have hnm := (name_of_methodNamed Bd.named Bd.method).1
  have X0 : Stand p l e R_1_0_0_12 s m #[(.ref c0_a)] below meth c s₁ [] 0 0 := Stand.of_body Bd
  have e0 : s₁.heap = h0 := by rw [← hh, Bd.state]; rfl
  have N0 := Fr.nil n0
  obtain ⟨T1, X1, e1, st1⟩ := initO X0 hx hZ hown (tw_44 hw) (tw_32 hw) (tw_33 hw) e0 (g := (mkF m 1 #[.val (.ref c0_a)] [(.ref c0_a)])) rfl (by rw [hml]; rfl) rfl (hb hby d9_1) (by decide) (W := 0) (by show 2 * 0 + _ ≤ _; exact Nat.le_of_eq rfl) (by decide)
  obtain ⟨fs, hr, hrun, hended, hW, hsame⟩ := X1.leave (v := none) (fun _ => rfl)
  refine ⟨_, _, castTop (ef9_R m c0_a) ?_, hrun, hended, _, _, rfl, ?_, ⟨_, rfl⟩, hW, hsame.mono (by decide) (by decide)⟩
  · show Steps p.tables e below (s₁.setTop (mkF m 0 #[.val (.ref c0_a)] [])) _
    refine XS.aloadN X0.here hx rfl (hb hby d9_0) rfl rfl ?_
    show Steps p.tables e below (s₁.setTop (mkF m 1 #[.val (.ref c0_a)] [(.ref c0_a)])) _
    refine st1 _ ?_
    show Steps p.tables e below (T1.setTop (mkF m 4 #[.val (.ref c0_a)] [])) _
    exact X1.returnOut hx Bd.returns (hb hby d9_4) hr
  · show QP none h0 n0 _ T1.heap _
    rw [e1]
    exact ⟨rfl, N0, rfl⟩
theorem tw_42 {a0 : Array Value} {Z : State} (hw : ∀ d ∈ tables_1, d.before a0 Z = true) : (Jvm.Cond.initialized "java/lang/Record").before a0 Z = true := hw _ (List.mem_of_getElem? (i := 42) rfl)
theorem pd_5 : parseMethodDescriptor "()V" = some ⟨[], none⟩ := by decide +kernel
theorem tw_40 {a0 : Array Value} {Z : State} (hw : ∀ d ∈ tables_1, d.before a0 Z = true) : (Jvm.Cond.instanceMethod ({ cls := "java/lang/Record", name := "<init>", desc := "()V" } : Jvm.MethodName)).before a0 Z = true := hw _ (List.mem_of_getElem? (i := 40) rfl)
theorem d8_4 : decode prog_3_method_1_code 4 = .ok (.aload_n 0, 1) := by decide +kernel
theorem d8_5 : decode prog_3_method_1_code 5 = .ok (.iload_n 1, 1) := by decide +kernel
theorem d8_6 : decode prog_3_method_1_code 6 = .ok (.putfield 7, 3) := by decide +kernel
theorem tw_45 {a0 : Array Value} {Z : State} (hw : ∀ d ∈ tables_1, d.before a0 Z = true) : (Jvm.Cond.fieldLink "com/example/corestone/corestone/BulkRequest$Line" (7 : Nat) "com/example/corestone/corestone/BulkRequest$Line" "number" "I").before a0 Z = true := hw _ (List.mem_of_getElem? (i := 45) rfl)
theorem d8_9 : decode prog_3_method_1_code 9 = .ok (.aload_n 0, 1) := by decide +kernel
theorem d8_10 : decode prog_3_method_1_code 10 = .ok (.aload_n 2, 1) := by decide +kernel
theorem d8_11 : decode prog_3_method_1_code 11 = .ok (.putfield 13, 3) := by decide +kernel
theorem tw_47 {a0 : Array Value} {Z : State} (hw : ∀ d ∈ tables_1, d.before a0 Z = true) : (Jvm.Cond.fieldLink "com/example/corestone/corestone/BulkRequest$Line" (13 : Nat) "com/example/corestone/corestone/BulkRequest$Line" "handle" "Ljava/util/Optional;").before a0 Z = true := hw _ (List.mem_of_getElem? (i := 47) rfl)
theorem d8_14 : decode prog_3_method_1_code 14 = .ok (.aload_n 0, 1) := by decide +kernel
theorem d8_15 : decode prog_3_method_1_code 15 = .ok (.aload_n 3, 1) := by decide +kernel
theorem d8_16 : decode prog_3_method_1_code 16 = .ok (.putfield 17, 3) := by decide +kernel
theorem tw_49 {a0 : Array Value} {Z : State} (hw : ∀ d ∈ tables_1, d.before a0 Z = true) : (Jvm.Cond.fieldLink "com/example/corestone/corestone/BulkRequest$Line" (17 : Nat) "com/example/corestone/corestone/BulkRequest$Line" "refusal" "Ljava/util/Optional;").before a0 Z = true := hw _ (List.mem_of_getElem? (i := 49) rfl)
theorem d8_19 : decode prog_3_method_1_code 19 = .ok (.return_, 1) := by decide +kernel
abbrev R_2_0_0_24 : Room := { frames := 2, cells := 0, slots := 0, locals := 24 }
abbrev M_6 : MethodName := ⟨"com/example/corestone/corestone/BulkRequest$Line", "<init>", "(ILjava/util/Optional;Ljava/util/Optional;)V"⟩
theorem ef8_RIRR (m : MethodId) (x0 : Addr) (x1 : Int32) (x2 : Addr) (x3 : Addr) : entryFrame m #[(.ref x0), (.int x1), (.ref x2), (.ref x3)] 4 = mkF m 0 #[.val (.ref x0), .val (.int x1), .val (.ref x2), .val (.ref x3)] [] := by first | (simp [entryFrame, mkF, argsToLocals, Value.category]; done) | rfl
def Q8_27 (Z : State) (c0_a : Addr) (p0 : Int32) (a_EMPTY : Addr) (c1_a : Addr) (h0 : Heap) (n0 : Nat) (v : Option Value) (h : Heap) (L : List Loc) : Prop := v = none ∧ Fr n0 L ∧ Keep h0 h [c0_a] ∧ F_1 Z h c0_a (.int p0) ∧ F_2 Z h c0_a (.ref a_EMPTY) ∧ F_3 Z h c0_a (.ref c1_a)
theorem pn_com_example_corestone_corestone_BulkRequest_Line : plainName "com/example/corestone/corestone/BulkRequest$Line" = true := by first | (simp [plainName, overriddenIn]; done) | decide +kernel
set_option maxRecDepth 65536 in
set_option maxHeartbeats 40000000 in
theorem rm8_26 (l : Launch) (Z : State) (a0 : Array Value) (hw : ∀ d ∈ tables_1, d.before a0 Z = true) (ws : List Jvm.Cond) (c0_a : Addr) (p0 : Int32) (a_EMPTY : Addr) (c1_a : Addr) (h0 : Heap) (n0 : Nat) (Z0 : n0 ≤ h0.size) (f1 : F_1 Z h0 c0_a (.int 0)) (f2 : E_2 Z h0 c0_a) (f3 : n0 ≤ c0_a) (f4 : F_2 Z h0 c0_a .null) (f5 : F_3 Z h0 c0_a .null) :
    MetFree l M_6 (head1 (Jvm.Cond.code M_6 prog_3_method_1_code 4 none :: ws) R_2_0_0_24) (fun a U => a = #[(.ref c0_a), (.int p0), (.ref a_EMPTY), (.ref c1_a)] ∧ Z.Warmed39 U.vm ∧ U.heap = h0) (fun _ _ _ _ _ => True) (fun _ U o U' => ∃ v L, o = .returned v ∧ Q8_27 Z c0_a p0 a_EMPTY c1_a h0 n0 v U'.heap L ∧ FrameEnd U o U' L R_2_0_0_24.cells R_2_0_0_24.slots) := by
  refine MetFree.of_bodySF (plainFor_of_name pn_com_example_corestone_corestone_BulkRequest_Line) hisR ?_
  intro p e s m args below meth c s₁ Bd hml0 hP hK
  obtain ⟨rfl, hZ, hh⟩ := hP
  have hx := Bd.exec
  have hby := Bd.bytes
  have hml : c.maxLocals = 4 := hml0
  have hown : s.vm.findClass "com/example/corestone/corestone/BulkRequest$Line" = some m.cls := findClass_of_methodNamed Bd.named
  have hnm := (name_of_methodNamed Bd.named Bd.method).1
  have X0 : Stand p l e R_2_0_0_24 s m #[(.ref c0_a), (.int p0), (.ref a_EMPTY), (.ref c1_a)] below meth c s₁ [] 0 0 := Stand.of_body Bd
  have e0 : s₁.heap = h0 := by rw [← hh, Bd.state]; rfl
  have N0 := Fr.nil n0
  -- pc 1: java/lang/Record.<init>
  obtain ⟨_, _, ⟨T1, L1, k1, n1⟩, -, X1, ⟨Lc1, hQ1, l1, y1, z1⟩, st1⟩ := X0.specialBack hx (y := M_5) rfl hown (mvT hZ (tw_39 hw)) (mvT hZ (tw_40 hw)) (mvT hZ (tw_43 hw)) (by decide) (backOf (W := 0) (rm9_25 l Z a0 hw [] c0_a h0 n0 Z0 ) hZ (tw_43 hw) (tw_42 hw) (by decide) (by decide)) (g := (mkF m 1 #[.val (.ref c0_a), .val (.int p0), .val (.ref a_EMPTY), .val (.ref c1_a)] [(.ref c0_a)])) rfl (by rw [hml]; rfl) (Steps.refl _) (a := c0_a) (argsL := []) (rest := []) (lenOf pd_5 rfl) rfl (by show 2 * 0 + _ ≤ _; exact Nat.le_of_eq rfl) (hb hby d8_1) (fun _ _ => ⟨rfl, e0, (by decide : 0 + 0 ≤ _), (by decide : 0 + 0 ≤ _)⟩)
  dsimp only [Pt.U, Pt.locs, Pt.cells, Pt.slots] at X1 l1 y1 z1 st1 hQ1
  subst l1 y1 z1
  obtain ⟨rfl, Nq1, e1⟩ := hQ1
  have N1 := Fr.app N0 Nq1
  obtain ⟨T2, h2, X2, e2, W2, st2⟩ := putF X1 hx hZ hown (host := "") (Or.inl (tw_45 hw)) Via.refl e1 f1 f2 (Or.inr ⟨(tw_46 hw), rfl, hnm⟩) (tw_12 hw) (ty := .int) (by decide) rfl rfl (g := (mkF m 6 #[.val (.ref c0_a), .val (.int p0), .val (.ref a_EMPTY), .val (.ref c1_a)] [(.int p0), (.ref c0_a)])) rfl rfl (hb hby d8_6)
  have Fw2 : F_1 Z h2 c0_a (.int p0) := Fld.same W2 f1
  have KK2 : Keep h0 h2 [c0_a] := (Keep.refl h0 [c0_a]).wr W2 (Or.inl (List.mem_of_getElem? (i := 0) rfl))
  have N2 := Fr.snoc X2 N1 f3
  have u3 : F_2 Z h2 c0_a .null := Fld.other W2 f4 (Or.inr (slot_ne (a0 := a0) (Or.inr (tw_48 hw)) (Or.inr (tw_46 hw)) (by decide) (t := (.object "java/util/Optional")) (t' := .int) (by decide) (by decide)))
  have u4 : E_2 Z h2 c0_a := Exa.wr W2 f2
  obtain ⟨T5, h5, X5, e5, W5, st5⟩ := putF X2 hx hZ hown (host := "") (Or.inl (tw_47 hw)) Via.refl e2 u3 u4 (Or.inr ⟨(tw_48 hw), rfl, hnm⟩) (tw_12 hw) (ty := (.object "java/util/Optional")) (by decide) rfl rfl (g := (mkF m 11 #[.val (.ref c0_a), .val (.int p0), .val (.ref a_EMPTY), .val (.ref c1_a)] [(.ref a_EMPTY), (.ref c0_a)])) rfl rfl (hb hby d8_11)
  have Fw5 : F_2 Z h5 c0_a (.ref a_EMPTY) := Fld.same W5 u3
  have KK5 : Keep h0 h5 [c0_a] := KK2.wr W5 (Or.inl (List.mem_of_getElem? (i := 0) rfl))
  have N5 := Fr.snoc X5 N2 f3
  have u6 : F_3 Z h2 c0_a .null := Fld.other W2 f5 (Or.inr (slot_ne (a0 := a0) (Or.inr (tw_50 hw)) (Or.inr (tw_46 hw)) (by decide) (t := (.object "java/util/Optional")) (t' := .int) (by decide) (by decide)))
  have u7 : F_3 Z h5 c0_a .null := Fld.other W5 u6 (Or.inr (slot_ne (a0 := a0) (Or.inr (tw_50 hw)) (Or.inr (tw_48 hw)) (by decide) (t := (.object "java/util/Optional")) (t' := (.object "java/util/Optional")) (by decide) (by decide)))
  have u8 : E_2 Z h5 c0_a := Exa.wr W5 u4
  obtain ⟨T9, h9, X9, e9, W9, st9⟩ := putF X5 hx hZ hown (host := "") (Or.inl (tw_49 hw)) Via.refl e5 u7 u8 (Or.inr ⟨(tw_50 hw), rfl, hnm⟩) (tw_12 hw) (ty := (.object "java/util/Optional")) (by decide) rfl rfl (g := (mkF m 16 #[.val (.ref c0_a), .val (.int p0), .val (.ref a_EMPTY), .val (.ref c1_a)] [(.ref c1_a), (.ref c0_a)])) rfl rfl (hb hby d8_16)
  have Fw9 : F_3 Z h9 c0_a (.ref c1_a) := Fld.same W9 u7
  have KK9 : Keep h0 h9 [c0_a] := KK5.wr W9 (Or.inl (List.mem_of_getElem? (i := 0) rfl))
  have N9 := Fr.snoc X9 N5 f3
  have u10 : F_1 Z h5 c0_a (.int p0) := Fld.other W5 Fw2 (Or.inr (slot_ne (a0 := a0) (Or.inr (tw_46 hw)) (Or.inr (tw_48 hw)) (by decide) (t := .int) (t' := (.object "java/util/Optional")) (by decide) (by decide)))
  have u11 : F_1 Z h9 c0_a (.int p0) := Fld.other W9 u10 (Or.inr (slot_ne (a0 := a0) (Or.inr (tw_46 hw)) (Or.inr (tw_50 hw)) (by decide) (t := .int) (t' := (.object "java/util/Optional")) (by decide) (by decide)))
  have u12 : F_2 Z h9 c0_a (.ref a_EMPTY) := Fld.other W9 Fw5 (Or.inr (slot_ne (a0 := a0) (Or.inr (tw_48 hw)) (Or.inr (tw_50 hw)) (by decide) (t := (.object "java/util/Optional")) (t' := (.object "java/util/Optional")) (by decide) (by decide)))
  obtain ⟨fs, hr, hrun, hended, hW, hsame⟩ := X9.leave (v := none) (fun _ => rfl)
  refine ⟨_, _, castTop (ef8_RIRR m c0_a p0 a_EMPTY c1_a) ?_, hrun, hended, _, _, rfl, ?_, ⟨_, rfl⟩, hW, hsame.mono (by decide) (by decide)⟩
  · show Steps p.tables e below (s₁.setTop (mkF m 0 #[.val (.ref c0_a), .val (.int p0), .val (.ref a_EMPTY), .val (.ref c1_a)] [])) _
    refine XS.aloadN X0.here hx rfl (hb hby d8_0) rfl rfl ?_
    show Steps p.tables e below (s₁.setTop (mkF m 1 #[.val (.ref c0_a), .val (.int p0), .val (.ref a_EMPTY), .val (.ref c1_a)] [(.ref c0_a)])) _
    refine st1.trans ?_
    refine XS.aloadN X1.here hx rfl (hb hby d8_4) rfl rfl ?_
    refine XS.iloadN X1.here hx rfl (hb hby d8_5) rfl ?_
    show Steps p.tables e below (T1.setTop (mkF m 6 #[.val (.ref c0_a), .val (.int p0), .val (.ref a_EMPTY), .val (.ref c1_a)] [(.int p0), (.ref c0_a)])) _
    refine st2 _ ?_
    refine XS.aloadN X2.here hx rfl (hb hby d8_9) rfl rfl ?_
    refine XS.aloadN X2.here hx rfl (hb hby d8_10) rfl rfl ?_
    show Steps p.tables e below (T2.setTop (mkF m 11 #[.val (.ref c0_a), .val (.int p0), .val (.ref a_EMPTY), .val (.ref c1_a)] [(.ref a_EMPTY), (.ref c0_a)])) _
    refine st5 _ ?_
    refine XS.aloadN X5.here hx rfl (hb hby d8_14) rfl rfl ?_
    refine XS.aloadN X5.here hx rfl (hb hby d8_15) rfl rfl ?_
    show Steps p.tables e below (T5.setTop (mkF m 16 #[.val (.ref c0_a), .val (.int p0), .val (.ref a_EMPTY), .val (.ref c1_a)] [(.ref c1_a), (.ref c0_a)])) _
    refine st9 _ ?_
    show Steps p.tables e below (T9.setTop (mkF m 19 #[.val (.ref c0_a), .val (.int p0), .val (.ref a_EMPTY), .val (.ref c1_a)] [])) _
    exact X9.returnOut hx Bd.returns (hb hby d8_19) hr
  · show Q8_27 Z c0_a p0 a_EMPTY c1_a h0 n0 _ T9.heap _
    rw [e9]
    exact ⟨rfl, N9, KK9, u11, u12, Fw9⟩
theorem pd_6 : parseMethodDescriptor "(ILjava/util/Optional;Ljava/util/Optional;)V" = some ⟨[.int, (.object "java/util/Optional"), (.object "java/util/Optional")], none⟩ := by decide +kernel
theorem tw_37 {a0 : Array Value} {Z : State} (hw : ∀ d ∈ tables_1, d.before a0 Z = true) : (Jvm.Cond.instanceMethod ({ cls := "com/example/corestone/corestone/BulkRequest$Line", name := "<init>", desc := "(ILjava/util/Optional;Ljava/util/Optional;)V" } : Jvm.MethodName)).before a0 Z = true := hw _ (List.mem_of_getElem? (i := 37) rfl)
theorem d2_15 : decode prog_3_method_3_code 15 = .ok (.areturn, 1) := by decide +kernel
abbrev R_3_2_4_42 : Room := { frames := 3, cells := 2, slots := 4, locals := 42 }
abbrev M_7 : MethodName := ⟨"com/example/corestone/corestone/BulkRequest$Line", "refused", "(ILcom/example/corestone/corestone/RefusedException$Refusal;)Lcom/example/corestone/corestone/BulkRequest$Line;"⟩
theorem ef2_IR (m : MethodId) (x0 : Int32) (x1 : Addr) : entryFrame m #[(.int x0), (.ref x1)] 2 = mkF m 0 #[.val (.int x0), .val (.ref x1)] [] := by first | (simp [entryFrame, mkF, argsToLocals, Value.category]; done) | rfl
def Q2_29 (Z : State) (p0 : Int32) (a_EMPTY : Addr) (a_INVALID_METADATA : Addr) (h0 : Heap) (n0 : Nat) (v : Option Value) (h : Heap) (L : List Loc) : Prop := ∃ (b16 : Addr) (b24 : Addr), v = (some (.ref b16)) ∧ Fr n0 L ∧ Keep h0 h [] ∧ h0.size ≤ b16 ∧ h0.size ≤ b24 ∧ E_2 Z h b16 ∧ F_1 Z h b16 (.int p0) ∧ F_2 Z h b16 (.ref a_EMPTY) ∧ F_3 Z h b16 (.ref b24) ∧ E_1 Z h b24 ∧ F_0 Z h b24 (.ref a_INVALID_METADATA) ∧ b16 ≠ b24
set_option maxRecDepth 65536 in
set_option maxHeartbeats 40000000 in
theorem rm2_28 (l : Launch) (Z : State) (a0 : Array Value) (hw : ∀ d ∈ tables_1, d.before a0 Z = true) (ws : List Jvm.Cond) (p0 : Int32) (a_INVALID_METADATA : Addr) (a_EMPTY : Addr) (h0 : Heap) (n0 : Nat) (Z0 : n0 ≤ h0.size) (f1 : S_8 Z h0 (.ref a_EMPTY)) :
    MetFree l M_7 (head1 (Jvm.Cond.code M_7 prog_3_method_3_code 2 (some (.object "com/example/corestone/corestone/BulkRequest$Line")) :: ws) R_3_2_4_42) (fun a U => a = #[(.int p0), (.ref a_INVALID_METADATA)] ∧ Z.Warmed39 U.vm ∧ U.heap = h0) (fun _ _ _ _ _ => True) (fun _ U o U' => ∃ v L, o = .returned v ∧ Q2_29 Z p0 a_EMPTY a_INVALID_METADATA h0 n0 v U'.heap L ∧ FrameEnd U o U' L R_3_2_4_42.cells R_3_2_4_42.slots) := by
  refine MetFree.of_bodySF (plainFor_of_name pn_com_example_corestone_corestone_BulkRequest_Line) hisR ?_
  intro p e s m args below meth c s₁ Bd hml0 hP hK
  obtain ⟨rfl, hZ, hh⟩ := hP
  have hx := Bd.exec
  have hby := Bd.bytes
  have hml : c.maxLocals = 2 := hml0
  have hown : s.vm.findClass "com/example/corestone/corestone/BulkRequest$Line" = some m.cls := findClass_of_methodNamed Bd.named
  have hnm := (name_of_methodNamed Bd.named Bd.method).1
  have X0 : Stand p l e R_3_2_4_42 s m #[(.int p0), (.ref a_INVALID_METADATA)] below meth c s₁ [] 0 0 := Stand.of_body Bd
  have e0 : s₁.heap = h0 := by rw [← hh, Bd.state]; rfl
  have N0 := Fr.nil n0
  obtain ⟨T1, h1, X1, e1, E1, A1, D1, -, st1⟩ := newO X0 hx hZ hown (tw_11 hw) (tw_12 hw) (tw_9 hw) e0 (g := (mkF m 0 #[.val (.int p0), .val (.ref a_INVALID_METADATA)] [])) rfl (hb hby d2_0) (by decide) (by decide)
  obtain ⟨b16, g1⟩ : ∃ z, z = h0.size := ⟨_, rfl⟩
  rw [← g1] at A1 D1 st1
  have sz_b16 : h0.size ≤ b16 := Nat.le_trans (Nat.le_refl _) (Nat.le_of_eq g1.symm)
  have g_b16 : n0 ≤ b16 := Nat.le_trans Z0 sz_b16
  have KK1 : Keep h0 h1 [] := (Keep.refl h0 []).ext E1
  have F1_46 : F_1 Z h1 b16 (.int 0) := D1 (Or.inr (tw_46 hw)) (ty := .int) (by decide)
  have F1_48 : F_2 Z h1 b16 .null := D1 (Or.inr (tw_48 hw)) (ty := (.object "java/util/Optional")) (by decide)
  have F1_50 : F_3 Z h1 b16 .null := D1 (Or.inr (tw_50 hw)) (ty := (.object "java/util/Optional")) (by decide)
  -- pc 5: java/util/Optional.empty
  have u2 : S_8 Z h1 (.ref a_EMPTY) := Sta.ext E1 f1
  obtain ⟨_, _, ⟨T3, L3, k3, n3⟩, -, X3, ⟨Lc3, hQ3, l3, y3, z3⟩, st3⟩ := Jvm.LawKit.callS X1 hx (y := M_1) hown (mvT hZ (tw_13 hw)) (mvT hZ (tw_14 hw)) (mvT hZ (tw_15 hw)) (mvT hZ (tw_16 hw)) (by decide) (backOf (W := 3) (rm3_17 l Z a0 hw [] a_EMPTY h1 n0 (Nat.le_trans Z0 KK1.1) u2) hZ (tw_16 hw) (tw_15 hw) (by decide) (by decide)) (g := (mkF m 5 #[.val (.int p0), .val (.ref a_INVALID_METADATA)] [(.int p0), (.ref b16), (.ref b16)])) rfl (by rw [hml]; rfl) (argsL := []) (rest := [(.int p0), (.ref b16), (.ref b16)]) (lenOf pd_1 rfl) rfl (by show 2 * 0 + _ ≤ _; exact Nat.le_of_eq rfl) (hb hby d2_5) (fun _ _ => ⟨rfl, e1, (by decide : 1 + 0 ≤ _), (by decide : 3 + 0 ≤ _)⟩)
  dsimp only [Pt.U, Pt.locs, Pt.cells, Pt.slots] at X3 l3 y3 z3 st3 hQ3
  subst l3 y3 z3
  obtain ⟨rfl, Nq3, e3⟩ := hQ3
  have N3 := Fr.app N0 Nq3
  -- pc 9: java/util/Optional.of
  obtain ⟨_, _, ⟨T4, L4, k4, n4⟩, -, X4, ⟨Lc4, hQ4, l4, y4, z4⟩, st4⟩ := Jvm.LawKit.callS X3 hx (y := M_4) hown (mvT hZ (tw_18 hw)) (mvT hZ (tw_19 hw)) (mvT hZ (tw_15 hw)) (mvT hZ (tw_20 hw)) (by decide) (backOf (W := 4) (rm4_22 l Z a0 hw [] a_INVALID_METADATA h1 n0 (Nat.le_trans Z0 KK1.1) ) hZ (tw_20 hw) (tw_15 hw) (by decide) (by decide)) (g := (mkF m 9 #[.val (.int p0), .val (.ref a_INVALID_METADATA)] [(.ref a_INVALID_METADATA), (.ref a_EMPTY), (.int p0), (.ref b16), (.ref b16)])) rfl (by rw [hml]; rfl) (argsL := [(.ref a_INVALID_METADATA)]) (rest := [(.ref a_EMPTY), (.int p0), (.ref b16), (.ref b16)]) (lenOf pd_4 rfl) rfl (by show 2 * 0 + _ ≤ _; exact Nat.le_of_eq rfl) (hb hby d2_9) (fun _ _ => ⟨rfl, e3, (by decide : 1 + 1 ≤ _), (by decide : 3 + 1 ≤ _)⟩)
  dsimp only [Pt.U, Pt.locs, Pt.cells, Pt.slots] at X4 l4 y4 z4 st4 hQ4
  subst l4 y4 z4
  obtain ⟨b24, rfl, Nq4, K4, le_b24, o4_0, o4_1⟩ := hQ4
  have N4 := Fr.app N3 Nq4
  have sz_b24 : h0.size ≤ b24 := Nat.le_trans KK1.1 le_b24
  have g_b24 : n0 ≤ b24 := Nat.le_trans Z0 sz_b24
  have KK4 : Keep h0 T4.heap [] := KK1.trans K4 (fun x hx => nomatch hx)
  -- pc 12: com/example/corestone/corestone/BulkRequest$Line.<init>
  have u5 : F_1 Z T4.heap b16 (.int 0) := Fld.keep F1_46 K4 List.not_mem_nil
  have u6 : E_2 Z T4.heap b16 := Exa.keep A1 K4
  have u7 : F_2 Z T4.heap b16 .null := Fld.keep F1_48 K4 List.not_mem_nil
  have u8 : F_3 Z T4.heap b16 .null := Fld.keep F1_50 K4 List.not_mem_nil
  obtain ⟨_, _, ⟨T9, L9, k9, n9⟩, -, X9, ⟨Lc9, hQ9, l9, y9, z9⟩, st9⟩ := X4.specialBack hx (y := M_6) rfl hown (mvT hZ (tw_36 hw)) (mvT hZ (tw_37 hw)) (mvT hZ (tw_38 hw)) (by decide) (backOf (W := 1) (rm8_26 l Z a0 hw [] b16 p0 a_EMPTY b24 T4.heap n0 (Nat.le_trans Z0 KK4.1) u5 u6 g_b16 u7 u8) hZ (tw_38 hw) (tw_9 hw) (by decide) (by decide)) (g := (mkF m 12 #[.val (.int p0), .val (.ref a_INVALID_METADATA)] [(.ref b24), (.ref a_EMPTY), (.int p0), (.ref b16), (.ref b16)])) rfl (by rw [hml]; rfl) (Steps.refl _) (a := b16) (argsL := [(.int p0), (.ref a_EMPTY), (.ref b24)]) (rest := [(.ref b16)]) (lenOf pd_6 rfl) rfl (by show 2 * 0 + _ ≤ _; exact Nat.le_of_eq rfl) (hb hby d2_12) (fun _ _ => ⟨rfl, rfl, (by decide : 2 + 0 ≤ _), (by decide : 4 + 0 ≤ _)⟩)
  dsimp only [Pt.U, Pt.locs, Pt.cells, Pt.slots] at X9 l9 y9 z9 st9 hQ9
  subst l9 y9 z9
  obtain ⟨rfl, Nq9, K9, o9_0, o9_1, o9_2⟩ := hQ9
  have N9 := Fr.app N4 Nq9
  have KK9 : Keep h0 T9.heap [] := KK4.trans K9 (fun x hx => (List.mem_cons.mp hx).elim (fun q => q ▸ (Or.inr sz_b16)) (fun hx => nomatch hx))
  have u10 : E_2 Z T9.heap b16 := Exa.keep u6 K9
  have u11 : E_1 Z T9.heap b24 := Exa.keep o4_0 K9
  have ne12 : b16 ≠ b24 := Nat.ne_of_lt (Nat.lt_of_lt_of_le (Exa.lt A1) le_b24)
  have u13 : F_0 Z T9.heap b24 (.ref a_INVALID_METADATA) := Fld.keep o4_1 K9 (own_notin (Ne.symm ne12) List.not_mem_nil)
  obtain ⟨fs, hr, hrun, hended, hW, hsame⟩ := X9.leave (v := (some (.ref b16))) (fun h => by rw [Bd.returns] at h; cases h)
  refine ⟨_, _, castTop (ef2_IR m p0 a_INVALID_METADATA) ?_, hrun, hended, _, _, rfl, ?_, ⟨_, rfl⟩, hW, hsame.mono (by decide) (by decide)⟩
  · show Steps p.tables e below (s₁.setTop (mkF m 0 #[.val (.int p0), .val (.ref a_INVALID_METADATA)] [])) _
    refine st1 _ ?_
    refine XS.dup X1.here hx rfl (hb hby d2_3) rfl rfl ?_
    refine XS.iloadN X1.here hx rfl (hb hby d2_4) rfl ?_
    show Steps p.tables e below (T1.setTop (mkF m 5 #[.val (.int p0), .val (.ref a_INVALID_METADATA)] [(.int p0), (.ref b16), (.ref b16)])) _
    refine st3 _ ?_
    refine XS.aloadN X3.here hx rfl (hb hby d2_8) rfl rfl ?_
    show Steps p.tables e below (T3.setTop (mkF m 9 #[.val (.int p0), .val (.ref a_INVALID_METADATA)] [(.ref a_INVALID_METADATA), (.ref a_EMPTY), (.int p0), (.ref b16), (.ref b16)])) _
    refine st4 _ ?_
    show Steps p.tables e below (T4.setTop (mkF m 12 #[.val (.int p0), .val (.ref a_INVALID_METADATA)] [(.ref b24), (.ref a_EMPTY), (.int p0), (.ref b16), (.ref b16)])) _
    refine st9.trans ?_
    show Steps p.tables e below (T9.setTop (mkF m 15 #[.val (.int p0), .val (.ref a_INVALID_METADATA)] [(.ref b16)])) _
    jvm_step X9.here [X9.here.top, hx, (hb hby d2_15), X9.method', Bd.returns, Value.isRef, FieldType.isReference]
    first | (intro acts; rw [hr _ acts rfl rfl rfl]) | rw [hr _ _ rfl rfl rfl]
    exact Steps.refl _
  · show Q2_29 Z p0 a_EMPTY a_INVALID_METADATA h0 n0 _ T9.heap _
    exact ⟨b16, b24, rfl, N9, KK9, sz_b16, sz_b24, u10, o9_0, o9_1, o9_2, u11, u13, ne12⟩
theorem pd_7 : parseMethodDescriptor "(ILcom/example/corestone/corestone/RefusedException$Refusal;)Lcom/example/corestone/corestone/BulkRequest$Line;" = some ⟨[.int, (.object "com/example/corestone/corestone/RefusedException$Refusal")], some (.object "com/example/corestone/corestone/BulkRequest$Line")⟩ := by decide +kernel
theorem tw_8 {a0 : Array Value} {Z : State} (hw : ∀ d ∈ tables_1, d.before a0 Z = true) : (Jvm.Cond.static ({ cls := "com/example/corestone/corestone/BulkRequest$Line", name := "refused", desc := "(ILcom/example/corestone/corestone/RefusedException$Refusal;)Lcom/example/corestone/corestone/BulkRequest$Line;" } : Jvm.MethodName)).before a0 Z = true := hw _ (List.mem_of_getElem? (i := 8) rfl)
theorem tw_51 {a0 : Array Value} {Z : State} (hw : ∀ d ∈ tables_1, d.before a0 Z = true) : (Jvm.Cond.methodLink "com/example/corestone/corestone/LineRefusedPinLaw" (46 : Nat) ({ cls := "com/example/corestone/corestone/BulkRequest$Line", name := "number", desc := "()I" } : Jvm.MethodName)).before a0 Z = true := hw _ (List.mem_of_getElem? (i := 51) rfl)
theorem tw_55 {a0 : Array Value} {Z : State} (hw : ∀ d ∈ tables_1, d.before a0 Z = true) : (Jvm.Cond.code ({ cls := "com/example/corestone/corestone/BulkRequest$Line", name := "number", desc := "()I" } : Jvm.MethodName) prog_3_method_7_code (1 : Nat) (Option.some Jvm.ClassFile.FieldType.int)).before a0 Z = true := hw _ (List.mem_of_getElem? (i := 55) rfl)
theorem d10_0 : decode prog_3_method_7_code 0 = .ok (.aload_n 0, 1) := by decide +kernel
theorem d10_1 : decode prog_3_method_7_code 1 = .ok (.getfield 7, 3) := by decide +kernel
theorem d10_4 : decode prog_3_method_7_code 4 = .ok (.ireturn, 1) := by decide +kernel
abbrev M_8 : MethodName := ⟨"com/example/corestone/corestone/BulkRequest$Line", "number", "()I"⟩
theorem ef10_R (m : MethodId) (x0 : Addr) : entryFrame m #[(.ref x0)] 1 = mkF m 0 #[.val (.ref x0)] [] := by first | (simp [entryFrame, mkF, argsToLocals, Value.category]; done) | rfl
set_option maxRecDepth 65536 in
set_option maxHeartbeats 40000000 in
theorem rm10_32 (l : Launch) (Z : State) (a0 : Array Value) (hw : ∀ d ∈ tables_1, d.before a0 Z = true) (ws : List Jvm.Cond) (c0_a : Addr) (p0 : Int32) (h0 : Heap) (n0 : Nat) (Z0 : n0 ≤ h0.size) (f1 : F_1 Z h0 c0_a (.int p0)) :
    MetFree l M_8 (head1 (Jvm.Cond.code M_8 prog_3_method_7_code 1 (some .int) :: ws) R_0_0_0_0) (fun a U => a = #[(.ref c0_a)] ∧ Z.Warmed39 U.vm ∧ U.heap = h0) (fun _ _ _ _ _ => True) (fun _ U o U' => ∃ v L, o = .returned v ∧ QP (some (.int p0)) h0 n0 v U'.heap L ∧ FrameEnd U o U' L R_0_0_0_0.cells R_0_0_0_0.slots) := by
  refine MetFree.of_bodySF (plainFor_of_name pn_com_example_corestone_corestone_BulkRequest_Line) hisR ?_
  intro p e s m args below meth c s₁ Bd hml0 hP hK
  obtain ⟨rfl, hZ, hh⟩ := hP
  have hx := Bd.exec
  have hby := Bd.bytes
  have hml : c.maxLocals = 1 := hml0
  have hown : s.vm.findClass "com/example/corestone/corestone/BulkRequest$Line" = some m.cls := findClass_of_methodNamed Bd.named
  have hnm := (name_of_methodNamed Bd.named Bd.method).1
  have X0 : Stand p l e R_0_0_0_0 s m #[(.ref c0_a)] below meth c s₁ [] 0 0 := Stand.of_body Bd
  have e0 : s₁.heap = h0 := by rw [← hh, Bd.state]; rfl
  have N0 := Fr.nil n0
  obtain ⟨T1, X1, e1, st1⟩ := getF X0 hx hZ hown (host := "") (Or.inl (tw_45 hw)) Via.refl e0 f1 (g := (mkF m 1 #[.val (.ref c0_a)] [(.ref c0_a)])) rfl rfl (hb hby d10_1)
  obtain ⟨fs, hr, hrun, hended, hW, hsame⟩ := X1.leave (v := (some (.int p0))) (fun h => by rw [Bd.returns] at h; cases h)
  refine ⟨_, _, castTop (ef10_R m c0_a) ?_, hrun, hended, _, _, rfl, ?_, ⟨_, rfl⟩, hW, hsame.mono (by decide) (by decide)⟩
  · show Steps p.tables e below (s₁.setTop (mkF m 0 #[.val (.ref c0_a)] [])) _
    refine XS.aloadN X0.here hx rfl (hb hby d10_0) rfl rfl ?_
    show Steps p.tables e below (s₁.setTop (mkF m 1 #[.val (.ref c0_a)] [(.ref c0_a)])) _
    refine st1 _ ?_
    show Steps p.tables e below (T1.setTop (mkF m 4 #[.val (.ref c0_a)] [(.int p0)])) _
    exact retI X1 hx Bd.returns (hb hby d10_4) hr
  · show QP (some (.int p0)) h0 n0 _ T1.heap _
    rw [e1]
    exact ⟨rfl, N0, rfl⟩
theorem pd_8 : parseMethodDescriptor "()I" = some ⟨[], some .int⟩ := by decide +kernel
theorem tw_54 {a0 : Array Value} {Z : State} (hw : ∀ d ∈ tables_1, d.before a0 Z = true) : (Jvm.Cond.selects "com/example/corestone/corestone/BulkRequest$Line" ({ cls := "com/example/corestone/corestone/BulkRequest$Line", name := "number", desc := "()I" } : Jvm.MethodName) ({ cls := "com/example/corestone/corestone/BulkRequest$Line", name := "number", desc := "()I" } : Jvm.MethodName)).before a0 Z = true := hw _ (List.mem_of_getElem? (i := 54) rfl)
theorem tw_52 {a0 : Array Value} {Z : State} (hw : ∀ d ∈ tables_1, d.before a0 Z = true) : (Jvm.Cond.declares ({ cls := "com/example/corestone/corestone/BulkRequest$Line", name := "number", desc := "()I" } : Jvm.MethodName)).before a0 Z = true := hw _ (List.mem_of_getElem? (i := 52) rfl)
theorem tw_53 {a0 : Array Value} {Z : State} (hw : ∀ d ∈ tables_1, d.before a0 Z = true) : (Jvm.Cond.instanceMethod ({ cls := "com/example/corestone/corestone/BulkRequest$Line", name := "number", desc := "()I" } : Jvm.MethodName)).before a0 Z = true := hw _ (List.mem_of_getElem? (i := 53) rfl)
theorem tw_56 {a0 : Array Value} {Z : State} (hw : ∀ d ∈ tables_1, d.before a0 Z = true) : (Jvm.Cond.methodLink "com/example/corestone/corestone/LineRefusedPinLaw" (50 : Nat) ({ cls := "com/example/corestone/corestone/BulkRequest$Line", name := "handle", desc := "()Ljava/util/Optional;" } : Jvm.MethodName)).before a0 Z = true := hw _ (List.mem_of_getElem? (i := 56) rfl)
theorem tw_60 {a0 : Array Value} {Z : State} (hw : ∀ d ∈ tables_1, d.before a0 Z = true) : (Jvm.Cond.code ({ cls := "com/example/corestone/corestone/BulkRequest$Line", name := "handle", desc := "()Ljava/util/Optional;" } : Jvm.MethodName) prog_3_method_8_code (1 : Nat) (Option.some (Jvm.ClassFile.FieldType.object "java/util/Optional"))).before a0 Z = true := hw _ (List.mem_of_getElem? (i := 60) rfl)
theorem d11_0 : decode prog_3_method_8_code 0 = .ok (.aload_n 0, 1) := by decide +kernel
theorem d11_1 : decode prog_3_method_8_code 1 = .ok (.getfield 13, 3) := by decide +kernel
theorem d11_4 : decode prog_3_method_8_code 4 = .ok (.areturn, 1) := by decide +kernel
abbrev M_9 : MethodName := ⟨"com/example/corestone/corestone/BulkRequest$Line", "handle", "()Ljava/util/Optional;"⟩
theorem ef11_R (m : MethodId) (x0 : Addr) : entryFrame m #[(.ref x0)] 1 = mkF m 0 #[.val (.ref x0)] [] := by first | (simp [entryFrame, mkF, argsToLocals, Value.category]; done) | rfl
set_option maxRecDepth 65536 in
set_option maxHeartbeats 40000000 in
theorem rm11_33 (l : Launch) (Z : State) (a0 : Array Value) (hw : ∀ d ∈ tables_1, d.before a0 Z = true) (ws : List Jvm.Cond) (c0_a : Addr) (a_EMPTY : Addr) (h0 : Heap) (n0 : Nat) (Z0 : n0 ≤ h0.size) (f1 : F_2 Z h0 c0_a (.ref a_EMPTY)) :
    MetFree l M_9 (head1 (Jvm.Cond.code M_9 prog_3_method_8_code 1 (some (.object "java/util/Optional")) :: ws) R_0_0_0_0) (fun a U => a = #[(.ref c0_a)] ∧ Z.Warmed39 U.vm ∧ U.heap = h0) (fun _ _ _ _ _ => True) (fun _ U o U' => ∃ v L, o = .returned v ∧ QP (some (.ref a_EMPTY)) h0 n0 v U'.heap L ∧ FrameEnd U o U' L R_0_0_0_0.cells R_0_0_0_0.slots) := by
  refine MetFree.of_bodySF (plainFor_of_name pn_com_example_corestone_corestone_BulkRequest_Line) hisR ?_
  intro p e s m args below meth c s₁ Bd hml0 hP hK
  obtain ⟨rfl, hZ, hh⟩ := hP
  have hx := Bd.exec
  have hby := Bd.bytes
  have hml : c.maxLocals = 1 := hml0
  have hown : s.vm.findClass "com/example/corestone/corestone/BulkRequest$Line" = some m.cls := findClass_of_methodNamed Bd.named
  have hnm := (name_of_methodNamed Bd.named Bd.method).1
  have X0 : Stand p l e R_0_0_0_0 s m #[(.ref c0_a)] below meth c s₁ [] 0 0 := Stand.of_body Bd
  have e0 : s₁.heap = h0 := by rw [← hh, Bd.state]; rfl
  have N0 := Fr.nil n0
  obtain ⟨T1, X1, e1, st1⟩ := getF X0 hx hZ hown (host := "") (Or.inl (tw_47 hw)) Via.refl e0 f1 (g := (mkF m 1 #[.val (.ref c0_a)] [(.ref c0_a)])) rfl rfl (hb hby d11_1)
  obtain ⟨fs, hr, hrun, hended, hW, hsame⟩ := X1.leave (v := (some (.ref a_EMPTY))) (fun h => by rw [Bd.returns] at h; cases h)
  refine ⟨_, _, castTop (ef11_R m c0_a) ?_, hrun, hended, _, _, rfl, ?_, ⟨_, rfl⟩, hW, hsame.mono (by decide) (by decide)⟩
  · show Steps p.tables e below (s₁.setTop (mkF m 0 #[.val (.ref c0_a)] [])) _
    refine XS.aloadN X0.here hx rfl (hb hby d11_0) rfl rfl ?_
    show Steps p.tables e below (s₁.setTop (mkF m 1 #[.val (.ref c0_a)] [(.ref c0_a)])) _
    refine st1 _ ?_
    show Steps p.tables e below (T1.setTop (mkF m 4 #[.val (.ref c0_a)] [(.ref a_EMPTY)])) _
    jvm_step X1.here [X1.here.top, hx, (hb hby d11_4), X1.method', Bd.returns, Value.isRef, FieldType.isReference]
    first | (intro acts; rw [hr _ acts rfl rfl rfl]) | rw [hr _ _ rfl rfl rfl]
    exact Steps.refl _
  · show QP (some (.ref a_EMPTY)) h0 n0 _ T1.heap _
    rw [e1]
    exact ⟨rfl, N0, rfl⟩
theorem tw_59 {a0 : Array Value} {Z : State} (hw : ∀ d ∈ tables_1, d.before a0 Z = true) : (Jvm.Cond.selects "com/example/corestone/corestone/BulkRequest$Line" ({ cls := "com/example/corestone/corestone/BulkRequest$Line", name := "handle", desc := "()Ljava/util/Optional;" } : Jvm.MethodName) ({ cls := "com/example/corestone/corestone/BulkRequest$Line", name := "handle", desc := "()Ljava/util/Optional;" } : Jvm.MethodName)).before a0 Z = true := hw _ (List.mem_of_getElem? (i := 59) rfl)
theorem tw_57 {a0 : Array Value} {Z : State} (hw : ∀ d ∈ tables_1, d.before a0 Z = true) : (Jvm.Cond.declares ({ cls := "com/example/corestone/corestone/BulkRequest$Line", name := "handle", desc := "()Ljava/util/Optional;" } : Jvm.MethodName)).before a0 Z = true := hw _ (List.mem_of_getElem? (i := 57) rfl)
theorem tw_58 {a0 : Array Value} {Z : State} (hw : ∀ d ∈ tables_1, d.before a0 Z = true) : (Jvm.Cond.instanceMethod ({ cls := "com/example/corestone/corestone/BulkRequest$Line", name := "handle", desc := "()Ljava/util/Optional;" } : Jvm.MethodName)).before a0 Z = true := hw _ (List.mem_of_getElem? (i := 58) rfl)
theorem tw_61 {a0 : Array Value} {Z : State} (hw : ∀ d ∈ tables_1, d.before a0 Z = true) : (Jvm.Cond.methodLink "com/example/corestone/corestone/LineRefusedPinLaw" (54 : Nat) ({ cls := "java/util/Optional", name := "isPresent", desc := "()Z" } : Jvm.MethodName)).before a0 Z = true := hw _ (List.mem_of_getElem? (i := 61) rfl)
theorem tw_65 {a0 : Array Value} {Z : State} (hw : ∀ d ∈ tables_1, d.before a0 Z = true) : (Jvm.Cond.code ({ cls := "java/util/Optional", name := "isPresent", desc := "()Z" } : Jvm.MethodName) jdk_32_method_6_code (1 : Nat) (Option.some Jvm.ClassFile.FieldType.boolean)).before a0 Z = true := hw _ (List.mem_of_getElem? (i := 65) rfl)
theorem d12_0 : decode jdk_32_method_6_code 0 = .ok (.aload_n 0, 1) := by decide +kernel
theorem d12_1 : decode jdk_32_method_6_code 1 = .ok (.getfield 13, 3) := by decide +kernel
theorem d12_4 : decode jdk_32_method_6_code 4 = .ok (.ifnull 7, 3) := by decide +kernel
theorem d12_11 : decode jdk_32_method_6_code 11 = .ok (.iconst 0, 1) := by decide +kernel
theorem d12_12 : decode jdk_32_method_6_code 12 = .ok (.ireturn, 1) := by decide +kernel
abbrev M_10 : MethodName := ⟨"java/util/Optional", "isPresent", "()Z"⟩
theorem ef12_R (m : MethodId) (x0 : Addr) : entryFrame m #[(.ref x0)] 1 = mkF m 0 #[.val (.ref x0)] [] := by first | (simp [entryFrame, mkF, argsToLocals, Value.category]; done) | rfl
set_option maxRecDepth 65536 in
set_option maxHeartbeats 40000000 in
theorem rm12_34 (l : Launch) (Z : State) (a0 : Array Value) (hw : ∀ d ∈ tables_1, d.before a0 Z = true) (ws : List Jvm.Cond) (a_EMPTY : Addr) (h0 : Heap) (n0 : Nat) (Z0 : n0 ≤ h0.size) (f1 : F_0 Z h0 a_EMPTY .null) :
    MetFree l M_10 (head1 (Jvm.Cond.code M_10 jdk_32_method_6_code 1 (some .boolean) :: ws) R_0_0_0_0) (fun a U => a = #[(.ref a_EMPTY)] ∧ Z.Warmed39 U.vm ∧ U.heap = h0) (fun _ _ _ _ _ => True) (fun _ U o U' => ∃ v L, o = .returned v ∧ QP (some (.int 0)) h0 n0 v U'.heap L ∧ FrameEnd U o U' L R_0_0_0_0.cells R_0_0_0_0.slots) := by
  refine MetFree.of_bodySF (plainFor_of_name pn_java_util_Optional) hisR ?_
  intro p e s m args below meth c s₁ Bd hml0 hP hK
  obtain ⟨rfl, hZ, hh⟩ := hP
  have hx := Bd.exec
  have hby := Bd.bytes
  have hml : c.maxLocals = 1 := hml0
  have hown : s.vm.findClass "java/util/Optional" = some m.cls := findClass_of_methodNamed Bd.named
  have hnm := (name_of_methodNamed Bd.named Bd.method).1
  have X0 : Stand p l e R_0_0_0_0 s m #[(.ref a_EMPTY)] below meth c s₁ [] 0 0 := Stand.of_body Bd
  have e0 : s₁.heap = h0 := by rw [← hh, Bd.state]; rfl
  have N0 := Fr.nil n0
  obtain ⟨T1, X1, e1, st1⟩ := getF X0 hx hZ hown (host := "") (Or.inl (tw_34 hw)) Via.refl e0 f1 (g := (mkF m 1 #[.val (.ref a_EMPTY)] [(.ref a_EMPTY)])) rfl rfl (hb hby d12_1)
  obtain ⟨fs, hr, hrun, hended, hW, hsame⟩ := X1.leave (v := (some (.int 0))) (fun h => by rw [Bd.returns] at h; cases h)
  refine ⟨_, _, castTop (ef12_R m a_EMPTY) ?_, hrun, hended, _, _, rfl, ?_, ⟨_, rfl⟩, hW, hsame.mono (by decide) (by decide)⟩
  · show Steps p.tables e below (s₁.setTop (mkF m 0 #[.val (.ref a_EMPTY)] [])) _
    refine XS.aloadN X0.here hx rfl (hb hby d12_0) rfl rfl ?_
    show Steps p.tables e below (s₁.setTop (mkF m 1 #[.val (.ref a_EMPTY)] [(.ref a_EMPTY)])) _
    refine st1 _ ?_
    refine XS.ifnullYes X1.here hx rfl (pc0 := 4) (pc' := 11) rfl (hb hby d12_4) rfl (by decide) (by decide) ?_
    refine XS.iconst X1.here hx rfl (hb hby d12_11) ?_
    show Steps p.tables e below (T1.setTop (mkF m 12 #[.val (.ref a_EMPTY)] [(.int 0)])) _
    exact retN X1 hx (t := .boolean) Bd.returns (by simp) (hb hby d12_12) hr
  · show QP (some (.int 0)) h0 n0 _ T1.heap _
    rw [e1]
    exact ⟨rfl, N0, rfl⟩
theorem pd_9 : parseMethodDescriptor "()Z" = some ⟨[], some .boolean⟩ := by decide +kernel
theorem tw_64 {a0 : Array Value} {Z : State} (hw : ∀ d ∈ tables_1, d.before a0 Z = true) : (Jvm.Cond.selects "java/util/Optional" ({ cls := "java/util/Optional", name := "isPresent", desc := "()Z" } : Jvm.MethodName) ({ cls := "java/util/Optional", name := "isPresent", desc := "()Z" } : Jvm.MethodName)).before a0 Z = true := hw _ (List.mem_of_getElem? (i := 64) rfl)
theorem tw_62 {a0 : Array Value} {Z : State} (hw : ∀ d ∈ tables_1, d.before a0 Z = true) : (Jvm.Cond.declares ({ cls := "java/util/Optional", name := "isPresent", desc := "()Z" } : Jvm.MethodName)).before a0 Z = true := hw _ (List.mem_of_getElem? (i := 62) rfl)
theorem tw_63 {a0 : Array Value} {Z : State} (hw : ∀ d ∈ tables_1, d.before a0 Z = true) : (Jvm.Cond.instanceMethod ({ cls := "java/util/Optional", name := "isPresent", desc := "()Z" } : Jvm.MethodName)).before a0 Z = true := hw _ (List.mem_of_getElem? (i := 63) rfl)
theorem tw_66 {a0 : Array Value} {Z : State} (hw : ∀ d ∈ tables_1, d.before a0 Z = true) : (Jvm.Cond.methodLink "com/example/corestone/corestone/LineRefusedPinLaw" (60 : Nat) ({ cls := "com/example/corestone/corestone/BulkRequest$Line", name := "refusal", desc := "()Ljava/util/Optional;" } : Jvm.MethodName)).before a0 Z = true := hw _ (List.mem_of_getElem? (i := 66) rfl)
theorem tw_70 {a0 : Array Value} {Z : State} (hw : ∀ d ∈ tables_1, d.before a0 Z = true) : (Jvm.Cond.code ({ cls := "com/example/corestone/corestone/BulkRequest$Line", name := "refusal", desc := "()Ljava/util/Optional;" } : Jvm.MethodName) prog_3_method_9_code (1 : Nat) (Option.some (Jvm.ClassFile.FieldType.object "java/util/Optional"))).before a0 Z = true := hw _ (List.mem_of_getElem? (i := 70) rfl)
theorem d13_0 : decode prog_3_method_9_code 0 = .ok (.aload_n 0, 1) := by decide +kernel
theorem d13_1 : decode prog_3_method_9_code 1 = .ok (.getfield 17, 3) := by decide +kernel
theorem d13_4 : decode prog_3_method_9_code 4 = .ok (.areturn, 1) := by decide +kernel
abbrev M_11 : MethodName := ⟨"com/example/corestone/corestone/BulkRequest$Line", "refusal", "()Ljava/util/Optional;"⟩
theorem ef13_R (m : MethodId) (x0 : Addr) : entryFrame m #[(.ref x0)] 1 = mkF m 0 #[.val (.ref x0)] [] := by first | (simp [entryFrame, mkF, argsToLocals, Value.category]; done) | rfl
set_option maxRecDepth 65536 in
set_option maxHeartbeats 40000000 in
theorem rm13_35 (l : Launch) (Z : State) (a0 : Array Value) (hw : ∀ d ∈ tables_1, d.before a0 Z = true) (ws : List Jvm.Cond) (c0_a : Addr) (c1_a : Addr) (h0 : Heap) (n0 : Nat) (Z0 : n0 ≤ h0.size) (f1 : F_3 Z h0 c0_a (.ref c1_a)) :
    MetFree l M_11 (head1 (Jvm.Cond.code M_11 prog_3_method_9_code 1 (some (.object "java/util/Optional")) :: ws) R_0_0_0_0) (fun a U => a = #[(.ref c0_a)] ∧ Z.Warmed39 U.vm ∧ U.heap = h0) (fun _ _ _ _ _ => True) (fun _ U o U' => ∃ v L, o = .returned v ∧ QP (some (.ref c1_a)) h0 n0 v U'.heap L ∧ FrameEnd U o U' L R_0_0_0_0.cells R_0_0_0_0.slots) := by
  refine MetFree.of_bodySF (plainFor_of_name pn_com_example_corestone_corestone_BulkRequest_Line) hisR ?_
  intro p e s m args below meth c s₁ Bd hml0 hP hK
  obtain ⟨rfl, hZ, hh⟩ := hP
  have hx := Bd.exec
  have hby := Bd.bytes
  have hml : c.maxLocals = 1 := hml0
  have hown : s.vm.findClass "com/example/corestone/corestone/BulkRequest$Line" = some m.cls := findClass_of_methodNamed Bd.named
  have hnm := (name_of_methodNamed Bd.named Bd.method).1
  have X0 : Stand p l e R_0_0_0_0 s m #[(.ref c0_a)] below meth c s₁ [] 0 0 := Stand.of_body Bd
  have e0 : s₁.heap = h0 := by rw [← hh, Bd.state]; rfl
  have N0 := Fr.nil n0
  obtain ⟨T1, X1, e1, st1⟩ := getF X0 hx hZ hown (host := "") (Or.inl (tw_49 hw)) Via.refl e0 f1 (g := (mkF m 1 #[.val (.ref c0_a)] [(.ref c0_a)])) rfl rfl (hb hby d13_1)
  obtain ⟨fs, hr, hrun, hended, hW, hsame⟩ := X1.leave (v := (some (.ref c1_a))) (fun h => by rw [Bd.returns] at h; cases h)
  refine ⟨_, _, castTop (ef13_R m c0_a) ?_, hrun, hended, _, _, rfl, ?_, ⟨_, rfl⟩, hW, hsame.mono (by decide) (by decide)⟩
  · show Steps p.tables e below (s₁.setTop (mkF m 0 #[.val (.ref c0_a)] [])) _
    refine XS.aloadN X0.here hx rfl (hb hby d13_0) rfl rfl ?_
    show Steps p.tables e below (s₁.setTop (mkF m 1 #[.val (.ref c0_a)] [(.ref c0_a)])) _
    refine st1 _ ?_
    show Steps p.tables e below (T1.setTop (mkF m 4 #[.val (.ref c0_a)] [(.ref c1_a)])) _
    jvm_step X1.here [X1.here.top, hx, (hb hby d13_4), X1.method', Bd.returns, Value.isRef, FieldType.isReference]
    first | (intro acts; rw [hr _ acts rfl rfl rfl]) | rw [hr _ _ rfl rfl rfl]
    exact Steps.refl _
  · show QP (some (.ref c1_a)) h0 n0 _ T1.heap _
    rw [e1]
    exact ⟨rfl, N0, rfl⟩
theorem tw_69 {a0 : Array Value} {Z : State} (hw : ∀ d ∈ tables_1, d.before a0 Z = true) : (Jvm.Cond.selects "com/example/corestone/corestone/BulkRequest$Line" ({ cls := "com/example/corestone/corestone/BulkRequest$Line", name := "refusal", desc := "()Ljava/util/Optional;" } : Jvm.MethodName) ({ cls := "com/example/corestone/corestone/BulkRequest$Line", name := "refusal", desc := "()Ljava/util/Optional;" } : Jvm.MethodName)).before a0 Z = true := hw _ (List.mem_of_getElem? (i := 69) rfl)
theorem tw_67 {a0 : Array Value} {Z : State} (hw : ∀ d ∈ tables_1, d.before a0 Z = true) : (Jvm.Cond.declares ({ cls := "com/example/corestone/corestone/BulkRequest$Line", name := "refusal", desc := "()Ljava/util/Optional;" } : Jvm.MethodName)).before a0 Z = true := hw _ (List.mem_of_getElem? (i := 67) rfl)
theorem tw_68 {a0 : Array Value} {Z : State} (hw : ∀ d ∈ tables_1, d.before a0 Z = true) : (Jvm.Cond.instanceMethod ({ cls := "com/example/corestone/corestone/BulkRequest$Line", name := "refusal", desc := "()Ljava/util/Optional;" } : Jvm.MethodName)).before a0 Z = true := hw _ (List.mem_of_getElem? (i := 68) rfl)
theorem d12_7 : decode jdk_32_method_6_code 7 = .ok (.iconst 1, 1) := by decide +kernel
theorem d12_8 : decode jdk_32_method_6_code 8 = .ok (.goto 4, 3) := by decide +kernel
set_option maxRecDepth 65536 in
set_option maxHeartbeats 40000000 in
theorem rm12_36 (l : Launch) (Z : State) (a0 : Array Value) (hw : ∀ d ∈ tables_1, d.before a0 Z = true) (ws : List Jvm.Cond) (c0_a : Addr) (a_INVALID_METADATA : Addr) (h0 : Heap) (n0 : Nat) (Z0 : n0 ≤ h0.size) (f1 : F_0 Z h0 c0_a (.ref a_INVALID_METADATA)) :
    MetFree l M_10 (head1 (Jvm.Cond.code M_10 jdk_32_method_6_code 1 (some .boolean) :: ws) R_0_0_0_0) (fun a U => a = #[(.ref c0_a)] ∧ Z.Warmed39 U.vm ∧ U.heap = h0) (fun _ _ _ _ _ => True) (fun _ U o U' => ∃ v L, o = .returned v ∧ QP (some (.int 1)) h0 n0 v U'.heap L ∧ FrameEnd U o U' L R_0_0_0_0.cells R_0_0_0_0.slots) := by
  refine MetFree.of_bodySF (plainFor_of_name pn_java_util_Optional) hisR ?_
  intro p e s m args below meth c s₁ Bd hml0 hP hK
  obtain ⟨rfl, hZ, hh⟩ := hP
  have hx := Bd.exec
  have hby := Bd.bytes
  have hml : c.maxLocals = 1 := hml0
  have hown : s.vm.findClass "java/util/Optional" = some m.cls := findClass_of_methodNamed Bd.named
  have hnm := (name_of_methodNamed Bd.named Bd.method).1
  have X0 : Stand p l e R_0_0_0_0 s m #[(.ref c0_a)] below meth c s₁ [] 0 0 := Stand.of_body Bd
  have e0 : s₁.heap = h0 := by rw [← hh, Bd.state]; rfl
  have N0 := Fr.nil n0
  obtain ⟨T1, X1, e1, st1⟩ := getF X0 hx hZ hown (host := "") (Or.inl (tw_34 hw)) Via.refl e0 f1 (g := (mkF m 1 #[.val (.ref c0_a)] [(.ref c0_a)])) rfl rfl (hb hby d12_1)
  obtain ⟨fs, hr, hrun, hended, hW, hsame⟩ := X1.leave (v := (some (.int 1))) (fun h => by rw [Bd.returns] at h; cases h)
  refine ⟨_, _, castTop (ef12_R m c0_a) ?_, hrun, hended, _, _, rfl, ?_, ⟨_, rfl⟩, hW, hsame.mono (by decide) (by decide)⟩
  · show Steps p.tables e below (s₁.setTop (mkF m 0 #[.val (.ref c0_a)] [])) _
    refine XS.aloadN X0.here hx rfl (hb hby d12_0) rfl rfl ?_
    show Steps p.tables e below (s₁.setTop (mkF m 1 #[.val (.ref c0_a)] [(.ref c0_a)])) _
    refine st1 _ ?_
    refine XS.ifnullNo X1.here hx rfl (hb hby d12_4) rfl ?_
    refine XS.iconst X1.here hx rfl (hb hby d12_7) ?_
    refine XS.goto X1.here hx rfl (pc0 := 8) (pc' := 12) rfl (hb hby d12_8) (by decide) (by decide) ?_
    show Steps p.tables e below (T1.setTop (mkF m 12 #[.val (.ref c0_a)] [(.int 1)])) _
    exact retN X1 hx (t := .boolean) Bd.returns (by simp) (hb hby d12_12) hr
  · show QP (some (.int 1)) h0 n0 _ T1.heap _
    rw [e1]
    exact ⟨rfl, N0, rfl⟩
theorem tw_71 {a0 : Array Value} {Z : State} (hw : ∀ d ∈ tables_1, d.before a0 Z = true) : (Jvm.Cond.methodLink "com/example/corestone/corestone/LineRefusedPinLaw" (63 : Nat) ({ cls := "java/util/Optional", name := "get", desc := "()Ljava/lang/Object;" } : Jvm.MethodName)).before a0 Z = true := hw _ (List.mem_of_getElem? (i := 71) rfl)
theorem tw_75 {a0 : Array Value} {Z : State} (hw : ∀ d ∈ tables_1, d.before a0 Z = true) : (Jvm.Cond.code ({ cls := "java/util/Optional", name := "get", desc := "()Ljava/lang/Object;" } : Jvm.MethodName) jdk_32_method_5_code (1 : Nat) (Option.some (Jvm.ClassFile.FieldType.object "java/lang/Object"))).before a0 Z = true := hw _ (List.mem_of_getElem? (i := 75) rfl)
theorem d14_0 : decode jdk_32_method_5_code 0 = .ok (.aload_n 0, 1) := by decide +kernel
theorem d14_1 : decode jdk_32_method_5_code 1 = .ok (.getfield 13, 3) := by decide +kernel
theorem d14_4 : decode jdk_32_method_5_code 4 = .ok (.ifnonnull 13, 3) := by decide +kernel
theorem d14_17 : decode jdk_32_method_5_code 17 = .ok (.aload_n 0, 1) := by decide +kernel
theorem d14_18 : decode jdk_32_method_5_code 18 = .ok (.getfield 13, 3) := by decide +kernel
theorem d14_21 : decode jdk_32_method_5_code 21 = .ok (.areturn, 1) := by decide +kernel
abbrev M_12 : MethodName := ⟨"java/util/Optional", "get", "()Ljava/lang/Object;"⟩
theorem ef14_R (m : MethodId) (x0 : Addr) : entryFrame m #[(.ref x0)] 1 = mkF m 0 #[.val (.ref x0)] [] := by first | (simp [entryFrame, mkF, argsToLocals, Value.category]; done) | rfl
set_option maxRecDepth 65536 in
set_option maxHeartbeats 40000000 in
theorem rm14_37 (l : Launch) (Z : State) (a0 : Array Value) (hw : ∀ d ∈ tables_1, d.before a0 Z = true) (ws : List Jvm.Cond) (c0_a : Addr) (a_INVALID_METADATA : Addr) (h0 : Heap) (n0 : Nat) (Z0 : n0 ≤ h0.size) (f1 : F_0 Z h0 c0_a (.ref a_INVALID_METADATA)) :
    MetFree l M_12 (head1 (Jvm.Cond.code M_12 jdk_32_method_5_code 1 (some (.object "java/lang/Object")) :: ws) R_0_0_0_0) (fun a U => a = #[(.ref c0_a)] ∧ Z.Warmed39 U.vm ∧ U.heap = h0) (fun _ _ _ _ _ => True) (fun _ U o U' => ∃ v L, o = .returned v ∧ QP (some (.ref a_INVALID_METADATA)) h0 n0 v U'.heap L ∧ FrameEnd U o U' L R_0_0_0_0.cells R_0_0_0_0.slots) := by
  refine MetFree.of_bodySF (plainFor_of_name pn_java_util_Optional) hisR ?_
  intro p e s m args below meth c s₁ Bd hml0 hP hK
  obtain ⟨rfl, hZ, hh⟩ := hP
  have hx := Bd.exec
  have hby := Bd.bytes
  have hml : c.maxLocals = 1 := hml0
  have hown : s.vm.findClass "java/util/Optional" = some m.cls := findClass_of_methodNamed Bd.named
  have hnm := (name_of_methodNamed Bd.named Bd.method).1
  have X0 : Stand p l e R_0_0_0_0 s m #[(.ref c0_a)] below meth c s₁ [] 0 0 := Stand.of_body Bd
  have e0 : s₁.heap = h0 := by rw [← hh, Bd.state]; rfl
  have N0 := Fr.nil n0
  obtain ⟨T1, X1, e1, st1⟩ := getF X0 hx hZ hown (host := "") (Or.inl (tw_34 hw)) Via.refl e0 f1 (g := (mkF m 1 #[.val (.ref c0_a)] [(.ref c0_a)])) rfl rfl (hb hby d14_1)
  obtain ⟨T2, X2, e2, st2⟩ := getF X1 hx hZ hown (host := "") (Or.inl (tw_34 hw)) Via.refl e1 f1 (g := (mkF m 18 #[.val (.ref c0_a)] [(.ref c0_a)])) rfl rfl (hb hby d14_18)
  obtain ⟨fs, hr, hrun, hended, hW, hsame⟩ := X2.leave (v := (some (.ref a_INVALID_METADATA))) (fun h => by rw [Bd.returns] at h; cases h)
  refine ⟨_, _, castTop (ef14_R m c0_a) ?_, hrun, hended, _, _, rfl, ?_, ⟨_, rfl⟩, hW, hsame.mono (by decide) (by decide)⟩
  · show Steps p.tables e below (s₁.setTop (mkF m 0 #[.val (.ref c0_a)] [])) _
    refine XS.aloadN X0.here hx rfl (hb hby d14_0) rfl rfl ?_
    show Steps p.tables e below (s₁.setTop (mkF m 1 #[.val (.ref c0_a)] [(.ref c0_a)])) _
    refine st1 _ ?_
    refine XS.ifnonnullYes X1.here hx rfl (pc0 := 4) (pc' := 17) rfl (hb hby d14_4) rfl (by decide) (by decide) ?_
    refine XS.aloadN X1.here hx rfl (hb hby d14_17) rfl rfl ?_
    show Steps p.tables e below (T1.setTop (mkF m 18 #[.val (.ref c0_a)] [(.ref c0_a)])) _
    refine st2 _ ?_
    show Steps p.tables e below (T2.setTop (mkF m 21 #[.val (.ref c0_a)] [(.ref a_INVALID_METADATA)])) _
    jvm_step X2.here [X2.here.top, hx, (hb hby d14_21), X2.method', Bd.returns, Value.isRef, FieldType.isReference]
    first | (intro acts; rw [hr _ acts rfl rfl rfl]) | rw [hr _ _ rfl rfl rfl]
    exact Steps.refl _
  · show QP (some (.ref a_INVALID_METADATA)) h0 n0 _ T2.heap _
    rw [e2]
    exact ⟨rfl, N0, rfl⟩
theorem pd_10 : parseMethodDescriptor "()Ljava/lang/Object;" = some ⟨[], some (.object "java/lang/Object")⟩ := by decide +kernel
theorem tw_74 {a0 : Array Value} {Z : State} (hw : ∀ d ∈ tables_1, d.before a0 Z = true) : (Jvm.Cond.selects "java/util/Optional" ({ cls := "java/util/Optional", name := "get", desc := "()Ljava/lang/Object;" } : Jvm.MethodName) ({ cls := "java/util/Optional", name := "get", desc := "()Ljava/lang/Object;" } : Jvm.MethodName)).before a0 Z = true := hw _ (List.mem_of_getElem? (i := 74) rfl)
theorem tw_72 {a0 : Array Value} {Z : State} (hw : ∀ d ∈ tables_1, d.before a0 Z = true) : (Jvm.Cond.declares ({ cls := "java/util/Optional", name := "get", desc := "()Ljava/lang/Object;" } : Jvm.MethodName)).before a0 Z = true := hw _ (List.mem_of_getElem? (i := 72) rfl)
theorem tw_73 {a0 : Array Value} {Z : State} (hw : ∀ d ∈ tables_1, d.before a0 Z = true) : (Jvm.Cond.instanceMethod ({ cls := "java/util/Optional", name := "get", desc := "()Ljava/lang/Object;" } : Jvm.MethodName)).before a0 Z = true := hw _ (List.mem_of_getElem? (i := 73) rfl)
theorem ef0_II (m : MethodId) (x0 : Int32) (x1 : Int32) : entryFrame m #[(.int x0), (.int x1)] maxLocals = mkF m 0 #[.val (.int x0), .val (.int x1), .unset, .unset] [] := by first | (simp [entryFrame, mkF, argsToLocals, Value.category, maxLocals]; done) | rfl
set_option maxRecDepth 65536 in
set_option maxHeartbeats 40000000 in
theorem rm0_38 (l : Launch) (Z : State) (a0 : Array Value) (hw : ∀ d ∈ tables_1, d.before a0 Z = true) (ws : List Jvm.Cond) (p0 : Int32) (p1 : Int32) (a_INVALID_METADATA : Addr) (a_EMPTY : Addr) (h0 : Heap) (n0 : Nat) (Z0 : n0 ≤ h0.size) (f1 : (p1 &&& (7 : Int32)) = (0 : Int32)) (f2 : S_3 Z h0 (.ref a_INVALID_METADATA)) (f3 : S_8 Z h0 (.ref a_EMPTY)) (f4 : F_0 Z h0 a_EMPTY .null) (f5 : E_1 Z h0 a_EMPTY) :
    MetFree l x (head1 (Jvm.Cond.code x code maxLocals ret :: ws) room_1) (fun a U => a = #[(.int p0), (.int p1)] ∧ Z.Warmed39 U.vm ∧ U.heap = h0) (fun _ _ _ _ _ => True) (fun _ U o U' => ∃ v L, o = .returned v ∧ QT n0 v U'.heap L ∧ FrameEnd U o U' L room_1.cells room_1.slots) := by
  refine MetFree.of_bodySF (plainFor_of_name pn_com_example_corestone_corestone_LineRefusedPinLaw) hisR ?_
  intro p e s m args below meth c s₁ Bd hml0 hP hK
  obtain ⟨rfl, hZ, hh⟩ := hP
  have hx := Bd.exec
  have hby := Bd.bytes
  have hml : c.maxLocals = 4 := hml0
  have hown : s.vm.findClass "com/example/corestone/corestone/LineRefusedPinLaw" = some m.cls := findClass_of_methodNamed Bd.named
  have hnm := (name_of_methodNamed Bd.named Bd.method).1
  have X0 : Stand p l e room_1 s m #[(.int p0), (.int p1)] below meth c s₁ [] 0 0 := Stand.of_body Bd
  have e0 : s₁.heap = h0 := by rw [← hh, Bd.state]; rfl
  have N0 := Fr.nil n0
  -- pc 1: com/example/corestone/corestone/LineRefusedPinLaw.pick
  obtain ⟨_, _, ⟨T1, L1, k1, n1⟩, -, X1, ⟨Lc1, hQ1, l1, y1, z1⟩, st1⟩ := Jvm.LawKit.callS X0 hx (y := M_0) hown (mvT hZ (tw_0 hw)) (mvT hZ (tw_1 hw)) (mvT hZ (tw_2 hw)) (mvT hZ (tw_3 hw)) (by decide) (backOf (W := 0) (rm1_15 l Z a0 hw [] p1 a_INVALID_METADATA h0 n0 Z0 f1 f2) hZ (tw_3 hw) (tw_2 hw) (by decide) (by decide)) (g := (mkF m 1 #[.val (.int p0), .val (.int p1), .unset, .unset] [(.int p1)])) rfl (by rw [hml]; rfl) (argsL := [(.int p1)]) (rest := []) (lenOf pd_0 rfl) rfl (by show 2 * 0 + _ ≤ _; exact Nat.le_of_eq rfl) (hb hby at_1) (fun _ _ => ⟨rfl, e0, (by decide : 0 + 0 ≤ _), (by decide : 0 + 0 ≤ _)⟩)
  dsimp only [Pt.U, Pt.locs, Pt.cells, Pt.slots] at X1 l1 y1 z1 st1 hQ1
  subst l1 y1 z1
  obtain ⟨rfl, Nq1, e1⟩ := hQ1
  have N1 := Fr.app N0 Nq1
  -- pc 7: com/example/corestone/corestone/BulkRequest$Line.refused
  obtain ⟨_, _, ⟨T2, L2, k2, n2⟩, -, X2, ⟨Lc2, hQ2, l2, y2, z2⟩, st2⟩ := Jvm.LawKit.callS X1 hx (y := M_7) hown (mvT hZ (tw_7 hw)) (mvT hZ (tw_8 hw)) (mvT hZ (tw_9 hw)) (mvT hZ (tw_10 hw)) (by decide) (backOf (W := 0) (rm2_28 l Z a0 hw [] p0 a_INVALID_METADATA a_EMPTY h0 n0 Z0 f3) hZ (tw_10 hw) (tw_9 hw) (by decide) (by decide)) (g := (mkF m 7 #[.val (.int p0), .val (.int p1), .val (.ref a_INVALID_METADATA), .unset] [(.ref a_INVALID_METADATA), (.int p0)])) rfl (by rw [hml]; rfl) (argsL := [(.int p0), (.ref a_INVALID_METADATA)]) (rest := []) (lenOf pd_7 rfl) rfl (by show 2 * 0 + _ ≤ _; exact Nat.le_of_eq rfl) (hb hby at_7) (fun _ _ => ⟨rfl, e1, (by decide : 0 + 2 ≤ _), (by decide : 0 + 4 ≤ _)⟩)
  dsimp only [Pt.U, Pt.locs, Pt.cells, Pt.slots] at X2 l2 y2 z2 st2 hQ2
  subst l2 y2 z2
  obtain ⟨b30, b31, rfl, Nq2, K2, le_b30, le_b31, o2_0, o2_1, o2_2, o2_3, o2_4, o2_5, o2_6⟩ := hQ2
  have N2 := Fr.app N1 Nq2
  have sz_b30 : h0.size ≤ b30 := Nat.le_trans (Nat.le_refl _) le_b30
  have g_b30 : n0 ≤ b30 := Nat.le_trans Z0 sz_b30
  have sz_b31 : h0.size ≤ b31 := Nat.le_trans (Nat.le_refl _) le_b31
  have g_b31 : n0 ≤ b31 := Nat.le_trans Z0 sz_b31
  have KK2 : Keep h0 T2.heap [] := (Keep.refl h0 []).trans K2 (fun x hx => nomatch hx)
  -- pc 18: com/example/corestone/corestone/BulkRequest$Line.number
  obtain ⟨cq3, kq3, q3a, q3b, q3c⟩ := isOf hZ rfl o2_0
  obtain ⟨_, _, ⟨T3, L3, k3, n3⟩, -, X3, ⟨Lc3, hQ3, l3, y3, z3⟩, st3⟩ := X2.virtualBack hx (y := M_8) (z := M_8) hown (mvT hZ (tw_51 hw)) (mvT hZ (tw_52 hw)) (notFace_of_selects (args := #[]) (mvT hZ (tw_54 hw))) (mvT hZ (tw_54 hw)) (mvT hZ (tw_53 hw)) (by decide) (backOf (W := 0) (rm10_32 l Z a0 hw [] b30 p0 T2.heap n0 (Nat.le_trans Z0 KK2.1) o2_1) hZ (tw_55 hw) (tw_9 hw) (by decide) (by decide)) q3a q3c (g := (mkF m 18 #[.val (.int p0), .val (.int p1), .val (.ref a_INVALID_METADATA), .val (.ref b30)] [(.ref b30)])) rfl (by rw [hml]; rfl) (Steps.refl _) (argsL := []) (rest := []) (lenOf pd_8 rfl) rfl (by show 2 * 0 + _ ≤ _; exact Nat.le_of_eq rfl) (hb hby at_18) (fun _ _ => ⟨rfl, rfl, (by decide : 2 + 0 ≤ _), (by decide : 4 + 0 ≤ _)⟩)
  dsimp only [Pt.U, Pt.locs, Pt.cells, Pt.slots] at X3 l3 y3 z3 st3 hQ3
  subst l3 y3 z3
  obtain ⟨rfl, Nq3, e3⟩ := hQ3
  have N3 := Fr.app N2 Nq3
  -- pc 28: com/example/corestone/corestone/BulkRequest$Line.handle
  obtain ⟨cq4, kq4, q4a, q4b, q4c⟩ := isOf hZ e3 o2_0
  obtain ⟨_, _, ⟨T4, L4, k4, n4⟩, -, X4, ⟨Lc4, hQ4, l4, y4, z4⟩, st4⟩ := X3.virtualBack hx (y := M_9) (z := M_9) hown (mvT hZ (tw_56 hw)) (mvT hZ (tw_57 hw)) (notFace_of_selects (args := #[]) (mvT hZ (tw_59 hw))) (mvT hZ (tw_59 hw)) (mvT hZ (tw_58 hw)) (by decide) (backOf (W := 0) (rm11_33 l Z a0 hw [] b30 a_EMPTY T2.heap n0 (Nat.le_trans Z0 KK2.1) o2_2) hZ (tw_60 hw) (tw_9 hw) (by decide) (by decide)) q4a q4c (g := (mkF m 28 #[.val (.int p0), .val (.int p1), .val (.ref a_INVALID_METADATA), .val (.ref b30)] [(.ref b30)])) rfl (by rw [hml]; rfl) (Steps.refl _) (argsL := []) (rest := []) (lenOf pd_1 rfl) rfl (by show 2 * 0 + _ ≤ _; exact Nat.le_of_eq rfl) (hb hby at_28) (fun _ _ => ⟨rfl, e3, (by decide : 2 + 0 ≤ _), (by decide : 4 + 0 ≤ _)⟩)
  dsimp only [Pt.U, Pt.locs, Pt.cells, Pt.slots] at X4 l4 y4 z4 st4 hQ4
  subst l4 y4 z4
  obtain ⟨rfl, Nq4, e4⟩ := hQ4
  have N4 := Fr.app N3 Nq4
  -- pc 35: com/example/corestone/corestone/BulkRequest$Line.handle
  obtain ⟨cq5, kq5, q5a, q5b, q5c⟩ := isOf hZ e4 o2_0
  obtain ⟨_, _, ⟨T5, L5, k5, n5⟩, -, X5, ⟨Lc5, hQ5, l5, y5, z5⟩, st5⟩ := X4.virtualBack hx (y := M_9) (z := M_9) hown (mvT hZ (tw_56 hw)) (mvT hZ (tw_57 hw)) (notFace_of_selects (args := #[]) (mvT hZ (tw_59 hw))) (mvT hZ (tw_59 hw)) (mvT hZ (tw_58 hw)) (by decide) (backOf (W := 0) (rm11_33 l Z a0 hw [] b30 a_EMPTY T2.heap n0 (Nat.le_trans Z0 KK2.1) o2_2) hZ (tw_60 hw) (tw_9 hw) (by decide) (by decide)) q5a q5c (g := (mkF m 35 #[.val (.int p0), .val (.int p1), .val (.ref a_INVALID_METADATA), .val (.ref b30)] [(.ref b30)])) rfl (by rw [hml]; rfl) (Steps.refl _) (argsL := []) (rest := []) (lenOf pd_1 rfl) rfl (by show 2 * 0 + _ ≤ _; exact Nat.le_of_eq rfl) (hb hby at_35) (fun _ _ => ⟨rfl, e4, (by decide : 2 + 0 ≤ _), (by decide : 4 + 0 ≤ _)⟩)
  dsimp only [Pt.U, Pt.locs, Pt.cells, Pt.slots] at X5 l5 y5 z5 st5 hQ5
  subst l5 y5 z5
  obtain ⟨rfl, Nq5, e5⟩ := hQ5
  have N5 := Fr.app N4 Nq5
  -- pc 38: java/util/Optional.isPresent
  have u6 : F_0 Z T2.heap a_EMPTY .null := Fld.keep f4 K2 List.not_mem_nil
  have u8 : E_1 Z T2.heap a_EMPTY := Exa.keep f5 K2
  obtain ⟨cq7, kq7, q7a, q7b, q7c⟩ := isOf hZ e5 u8
  obtain ⟨_, _, ⟨T7, L7, k7, n7⟩, -, X7, ⟨Lc7, hQ7, l7, y7, z7⟩, st7⟩ := X5.virtualBack hx (y := M_10) (z := M_10) hown (mvT hZ (tw_61 hw)) (mvT hZ (tw_62 hw)) (notFace_of_selects (args := #[]) (mvT hZ (tw_64 hw))) (mvT hZ (tw_64 hw)) (mvT hZ (tw_63 hw)) (by decide) (backOf (W := 0) (rm12_34 l Z a0 hw [] a_EMPTY T2.heap n0 (Nat.le_trans Z0 KK2.1) u6) hZ (tw_65 hw) (tw_15 hw) (by decide) (by decide)) q7a q7c (g := (mkF m 38 #[.val (.int p0), .val (.int p1), .val (.ref a_INVALID_METADATA), .val (.ref b30)] [(.ref a_EMPTY)])) rfl (by rw [hml]; rfl) (Steps.refl _) (argsL := []) (rest := []) (lenOf pd_9 rfl) rfl (by show 2 * 0 + _ ≤ _; exact Nat.le_of_eq rfl) (hb hby at_38) (fun _ _ => ⟨rfl, e5, (by decide : 2 + 0 ≤ _), (by decide : 4 + 0 ≤ _)⟩)
  dsimp only [Pt.U, Pt.locs, Pt.cells, Pt.slots] at X7 l7 y7 z7 st7 hQ7
  subst l7 y7 z7
  obtain ⟨rfl, Nq7, e7⟩ := hQ7
  have N7 := Fr.app N5 Nq7
  -- pc 47: com/example/corestone/corestone/BulkRequest$Line.refusal
  obtain ⟨cq9, kq9, q9a, q9b, q9c⟩ := isOf hZ e7 o2_0
  obtain ⟨_, _, ⟨T9, L9, k9, n9⟩, -, X9, ⟨Lc9, hQ9, l9, y9, z9⟩, st9⟩ := X7.virtualBack hx (y := M_11) (z := M_11) hown (mvT hZ (tw_66 hw)) (mvT hZ (tw_67 hw)) (notFace_of_selects (args := #[]) (mvT hZ (tw_69 hw))) (mvT hZ (tw_69 hw)) (mvT hZ (tw_68 hw)) (by decide) (backOf (W := 0) (rm13_35 l Z a0 hw [] b30 b31 T2.heap n0 (Nat.le_trans Z0 KK2.1) o2_3) hZ (tw_70 hw) (tw_9 hw) (by decide) (by decide)) q9a q9c (g := (mkF m 47 #[.val (.int p0), .val (.int p1), .val (.ref a_INVALID_METADATA), .val (.ref b30)] [(.ref b30)])) rfl (by rw [hml]; rfl) (Steps.refl _) (argsL := []) (rest := []) (lenOf pd_1 rfl) rfl (by show 2 * 0 + _ ≤ _; exact Nat.le_of_eq rfl) (hb hby at_47) (fun _ _ => ⟨rfl, e7, (by decide : 2 + 0 ≤ _), (by decide : 4 + 0 ≤ _)⟩)
  dsimp only [Pt.U, Pt.locs, Pt.cells, Pt.slots] at X9 l9 y9 z9 st9 hQ9
  subst l9 y9 z9
  obtain ⟨rfl, Nq9, e9⟩ := hQ9
  have N9 := Fr.app N7 Nq9
  -- pc 54: com/example/corestone/corestone/BulkRequest$Line.refusal
  obtain ⟨cq10, kq10, q10a, q10b, q10c⟩ := isOf hZ e9 o2_0
  obtain ⟨_, _, ⟨T10, L10, k10, n10⟩, -, X10, ⟨Lc10, hQ10, l10, y10, z10⟩, st10⟩ := X9.virtualBack hx (y := M_11) (z := M_11) hown (mvT hZ (tw_66 hw)) (mvT hZ (tw_67 hw)) (notFace_of_selects (args := #[]) (mvT hZ (tw_69 hw))) (mvT hZ (tw_69 hw)) (mvT hZ (tw_68 hw)) (by decide) (backOf (W := 0) (rm13_35 l Z a0 hw [] b30 b31 T2.heap n0 (Nat.le_trans Z0 KK2.1) o2_3) hZ (tw_70 hw) (tw_9 hw) (by decide) (by decide)) q10a q10c (g := (mkF m 54 #[.val (.int p0), .val (.int p1), .val (.ref a_INVALID_METADATA), .val (.ref b30)] [(.ref b30)])) rfl (by rw [hml]; rfl) (Steps.refl _) (argsL := []) (rest := []) (lenOf pd_1 rfl) rfl (by show 2 * 0 + _ ≤ _; exact Nat.le_of_eq rfl) (hb hby at_54) (fun _ _ => ⟨rfl, e9, (by decide : 2 + 0 ≤ _), (by decide : 4 + 0 ≤ _)⟩)
  dsimp only [Pt.U, Pt.locs, Pt.cells, Pt.slots] at X10 l10 y10 z10 st10 hQ10
  subst l10 y10 z10
  obtain ⟨rfl, Nq10, e10⟩ := hQ10
  have N10 := Fr.app N9 Nq10
  -- pc 57: java/util/Optional.isPresent
  obtain ⟨cq11, kq11, q11a, q11b, q11c⟩ := isOf hZ e10 o2_4
  obtain ⟨_, _, ⟨T11, L11, k11, n11⟩, -, X11, ⟨Lc11, hQ11, l11, y11, z11⟩, st11⟩ := X10.virtualBack hx (y := M_10) (z := M_10) hown (mvT hZ (tw_61 hw)) (mvT hZ (tw_62 hw)) (notFace_of_selects (args := #[]) (mvT hZ (tw_64 hw))) (mvT hZ (tw_64 hw)) (mvT hZ (tw_63 hw)) (by decide) (backOf (W := 0) (rm12_36 l Z a0 hw [] b31 a_INVALID_METADATA T2.heap n0 (Nat.le_trans Z0 KK2.1) o2_5) hZ (tw_65 hw) (tw_15 hw) (by decide) (by decide)) q11a q11c (g := (mkF m 57 #[.val (.int p0), .val (.int p1), .val (.ref a_INVALID_METADATA), .val (.ref b30)] [(.ref b31)])) rfl (by rw [hml]; rfl) (Steps.refl _) (argsL := []) (rest := []) (lenOf pd_9 rfl) rfl (by show 2 * 0 + _ ≤ _; exact Nat.le_of_eq rfl) (hb hby at_57) (fun _ _ => ⟨rfl, e10, (by decide : 2 + 0 ≤ _), (by decide : 4 + 0 ≤ _)⟩)
  dsimp only [Pt.U, Pt.locs, Pt.cells, Pt.slots] at X11 l11 y11 z11 st11 hQ11
  subst l11 y11 z11
  obtain ⟨rfl, Nq11, e11⟩ := hQ11
  have N11 := Fr.app N10 Nq11
  -- pc 66: com/example/corestone/corestone/BulkRequest$Line.refusal
  obtain ⟨cq12, kq12, q12a, q12b, q12c⟩ := isOf hZ e11 o2_0
  obtain ⟨_, _, ⟨T12, L12, k12, n12⟩, -, X12, ⟨Lc12, hQ12, l12, y12, z12⟩, st12⟩ := X11.virtualBack hx (y := M_11) (z := M_11) hown (mvT hZ (tw_66 hw)) (mvT hZ (tw_67 hw)) (notFace_of_selects (args := #[]) (mvT hZ (tw_69 hw))) (mvT hZ (tw_69 hw)) (mvT hZ (tw_68 hw)) (by decide) (backOf (W := 0) (rm13_35 l Z a0 hw [] b30 b31 T2.heap n0 (Nat.le_trans Z0 KK2.1) o2_3) hZ (tw_70 hw) (tw_9 hw) (by decide) (by decide)) q12a q12c (g := (mkF m 66 #[.val (.int p0), .val (.int p1), .val (.ref a_INVALID_METADATA), .val (.ref b30)] [(.ref b30)])) rfl (by rw [hml]; rfl) (Steps.refl _) (argsL := []) (rest := []) (lenOf pd_1 rfl) rfl (by show 2 * 0 + _ ≤ _; exact Nat.le_of_eq rfl) (hb hby at_66) (fun _ _ => ⟨rfl, e11, (by decide : 2 + 0 ≤ _), (by decide : 4 + 0 ≤ _)⟩)
  dsimp only [Pt.U, Pt.locs, Pt.cells, Pt.slots] at X12 l12 y12 z12 st12 hQ12
  subst l12 y12 z12
  obtain ⟨rfl, Nq12, e12⟩ := hQ12
  have N12 := Fr.app N11 Nq12
  -- pc 69: java/util/Optional.get
  obtain ⟨cq13, kq13, q13a, q13b, q13c⟩ := isOf hZ e12 o2_4
  obtain ⟨_, _, ⟨T13, L13, k13, n13⟩, -, X13, ⟨Lc13, hQ13, l13, y13, z13⟩, st13⟩ := X12.virtualBack hx (y := M_12) (z := M_12) hown (mvT hZ (tw_71 hw)) (mvT hZ (tw_72 hw)) (notFace_of_selects (args := #[]) (mvT hZ (tw_74 hw))) (mvT hZ (tw_74 hw)) (mvT hZ (tw_73 hw)) (by decide) (backOf (W := 0) (rm14_37 l Z a0 hw [] b31 a_INVALID_METADATA T2.heap n0 (Nat.le_trans Z0 KK2.1) o2_5) hZ (tw_75 hw) (tw_15 hw) (by decide) (by decide)) q13a q13c (g := (mkF m 69 #[.val (.int p0), .val (.int p1), .val (.ref a_INVALID_METADATA), .val (.ref b30)] [(.ref b31)])) rfl (by rw [hml]; rfl) (Steps.refl _) (argsL := []) (rest := []) (lenOf pd_10 rfl) rfl (by show 2 * 0 + _ ≤ _; exact Nat.le_of_eq rfl) (hb hby at_69) (fun _ _ => ⟨rfl, e12, (by decide : 2 + 0 ≤ _), (by decide : 4 + 0 ≤ _)⟩)
  dsimp only [Pt.U, Pt.locs, Pt.cells, Pt.slots] at X13 l13 y13 z13 st13 hQ13
  subst l13 y13 z13
  obtain ⟨rfl, Nq13, e13⟩ := hQ13
  have N13 := Fr.app N12 Nq13
  obtain ⟨fs, hr, hrun, hended, hW, hsame⟩ := X13.leave (v := (some (.int 1))) (fun h => by rw [Bd.returns] at h; cases h)
  refine ⟨_, _, castTop (ef0_II m p0 p1) ?_, hrun, hended, _, _, rfl, ?_, ⟨_, rfl⟩, hW, hsame.mono (by decide) (by decide)⟩
  · show Steps p.tables e below (s₁.setTop (mkF m 0 #[.val (.int p0), .val (.int p1), .unset, .unset] [])) _
    refine XS.iloadN X0.here hx rfl (hb hby at_0) rfl ?_
    show Steps p.tables e below (s₁.setTop (mkF m 1 #[.val (.int p0), .val (.int p1), .unset, .unset] [(.int p1)])) _
    refine st1 _ ?_
    refine XS.astoreN X1.here hx rfl (hb hby at_4) rfl rfl (l' := #[.val (.int p0), .val (.int p1), .val (.ref a_INVALID_METADATA), .unset]) rfl ?_
    refine XS.iloadN X1.here hx rfl (hb hby at_5) rfl ?_
    refine XS.aloadN X1.here hx rfl (hb hby at_6) rfl rfl ?_
    show Steps p.tables e below (T1.setTop (mkF m 7 #[.val (.int p0), .val (.int p1), .val (.ref a_INVALID_METADATA), .unset] [(.ref a_INVALID_METADATA), (.int p0)])) _
    refine st2 _ ?_
    refine XS.astoreN X2.here hx rfl (hb hby at_10) rfl rfl (l' := #[.val (.int p0), .val (.int p1), .val (.ref a_INVALID_METADATA), .val (.ref b30)]) rfl ?_
    refine XS.aloadN X2.here hx rfl (hb hby at_11) rfl rfl ?_
    refine XS.ifnonnullYes X2.here hx rfl (pc0 := 12) (pc' := 17) rfl (hb hby at_12) rfl (by decide) (by decide) ?_
    refine XS.aloadN X2.here hx rfl (hb hby at_17) rfl rfl ?_
    show Steps p.tables e below (T2.setTop (mkF m 18 #[.val (.int p0), .val (.int p1), .val (.ref a_INVALID_METADATA), .val (.ref b30)] [(.ref b30)])) _
    refine st3.trans ?_
    refine XS.iloadN X3.here hx rfl (hb hby at_21) rfl ?_
    refine XS.icmpYes X3.here hx rfl (pc0 := 22) (pc' := 27) rfl (hb hby at_22) rfl (teq (rfl : p0 = p0)).1 (by decide) (by decide) ?_
    refine XS.aloadN X3.here hx rfl (hb hby at_27) rfl rfl ?_
    show Steps p.tables e below (T3.setTop (mkF m 28 #[.val (.int p0), .val (.int p1), .val (.ref a_INVALID_METADATA), .val (.ref b30)] [(.ref b30)])) _
    refine st4.trans ?_
    refine XS.ifnullNo X4.here hx rfl (hb hby at_31) rfl ?_
    refine XS.aloadN X4.here hx rfl (hb hby at_34) rfl rfl ?_
    show Steps p.tables e below (T4.setTop (mkF m 35 #[.val (.int p0), .val (.int p1), .val (.ref a_INVALID_METADATA), .val (.ref b30)] [(.ref b30)])) _
    refine st5.trans ?_
    show Steps p.tables e below (T5.setTop (mkF m 38 #[.val (.int p0), .val (.int p1), .val (.ref a_INVALID_METADATA), .val (.ref b30)] [(.ref a_EMPTY)])) _
    refine st7.trans ?_
    refine XS.ifYes X7.here hx rfl (pc0 := 41) (pc' := 46) rfl (hb hby at_41) rfl (by decide) (by decide) (by decide) ?_
    refine XS.aloadN X7.here hx rfl (hb hby at_46) rfl rfl ?_
    show Steps p.tables e below (T7.setTop (mkF m 47 #[.val (.int p0), .val (.int p1), .val (.ref a_INVALID_METADATA), .val (.ref b30)] [(.ref b30)])) _
    refine st9.trans ?_
    refine XS.ifnullNo X9.here hx rfl (hb hby at_50) rfl ?_
    refine XS.aloadN X9.here hx rfl (hb hby at_53) rfl rfl ?_
    show Steps p.tables e below (T9.setTop (mkF m 54 #[.val (.int p0), .val (.int p1), .val (.ref a_INVALID_METADATA), .val (.ref b30)] [(.ref b30)])) _
    refine st10.trans ?_
    show Steps p.tables e below (T10.setTop (mkF m 57 #[.val (.int p0), .val (.int p1), .val (.ref a_INVALID_METADATA), .val (.ref b30)] [(.ref b31)])) _
    refine st11.trans ?_
    refine XS.ifYes X11.here hx rfl (pc0 := 60) (pc' := 65) rfl (hb hby at_60) rfl (by decide) (by decide) (by decide) ?_
    refine XS.aloadN X11.here hx rfl (hb hby at_65) rfl rfl ?_
    show Steps p.tables e below (T11.setTop (mkF m 66 #[.val (.int p0), .val (.int p1), .val (.ref a_INVALID_METADATA), .val (.ref b30)] [(.ref b30)])) _
    refine st12.trans ?_
    show Steps p.tables e below (T12.setTop (mkF m 69 #[.val (.int p0), .val (.int p1), .val (.ref a_INVALID_METADATA), .val (.ref b30)] [(.ref b31)])) _
    refine st13.trans ?_
    refine XS.aloadN X13.here hx rfl (hb hby at_72) rfl rfl ?_
    show Steps p.tables e below (T13.setTop (mkF m 73 #[.val (.int p0), .val (.int p1), .val (.ref a_INVALID_METADATA), .val (.ref b30)] [(.ref a_INVALID_METADATA), (.ref a_INVALID_METADATA)])) _
    refine Jvm.RoadKit.acmp (g := (mkF m 73 #[.val (.int p0), .val (.int p1), .val (.ref a_INVALID_METADATA), .val (.ref b30)] [(.ref a_INVALID_METADATA), (.ref a_INVALID_METADATA)])) X13 hx rfl rfl rfl (pc0 := 73) (pc' := 76) (same := true) rfl (hb hby at_73) rfl (decide_eq_true rfl) (by decide) (by decide) ?_
    refine XS.iconst X13.here hx rfl (hb hby at_76) ?_
    refine XS.goto X13.here hx rfl (pc0 := 77) (pc' := 81) rfl (hb hby at_77) (by decide) (by decide) ?_
    show Steps p.tables e below (T13.setTop (mkF m 81 #[.val (.int p0), .val (.int p1), .val (.ref a_INVALID_METADATA), .val (.ref b30)] [(.int 1)])) _
    exact retN X13 hx (t := .boolean) Bd.returns (by simp) (hb hby at_81) hr
  · show QT n0 _ T13.heap _
    rw [e13]
    exact ⟨rfl, N13⟩
theorem d1_13 : decode method_2_code 13 = .ok (.iload_n 1, 1) := by decide +kernel
theorem d1_14 : decode method_2_code 14 = .ok (.iconst 1, 1) := by decide +kernel
theorem d1_15 : decode method_2_code 15 = .ok (.if_icmp .ne 7, 3) := by decide +kernel
theorem d1_18 : decode method_2_code 18 = .ok (.getstatic 13, 3) := by decide +kernel
theorem tw_76 {a0 : Array Value} {Z : State} (hw : ∀ d ∈ tables_1, d.before a0 Z = true) : (Jvm.Cond.fieldLink "com/example/corestone/corestone/LineRefusedPinLaw" (13 : Nat) "com/example/corestone/corestone/RefusedException$Refusal" "INVALID_IDENTIFIER" "Lcom/example/corestone/corestone/RefusedException$Refusal;").before a0 Z = true := hw _ (List.mem_of_getElem? (i := 76) rfl)
theorem d1_21 : decode method_2_code 21 = .ok (.areturn, 1) := by decide +kernel
set_option maxRecDepth 65536 in
set_option maxHeartbeats 40000000 in
theorem rm1_39 (l : Launch) (Z : State) (a0 : Array Value) (hw : ∀ d ∈ tables_1, d.before a0 Z = true) (ws : List Jvm.Cond) (p1 : Int32) (a_INVALID_IDENTIFIER : Addr) (h0 : Heap) (n0 : Nat) (Z0 : n0 ≤ h0.size) (f1 : (p1 &&& (7 : Int32)) = (1 : Int32)) (f2 : S_1 Z h0 (.ref a_INVALID_IDENTIFIER)) :
    MetFree l M_0 (head1 (Jvm.Cond.code M_0 method_2_code 2 (some (.object "com/example/corestone/corestone/RefusedException$Refusal")) :: ws) R_0_0_0_0) (fun a U => a = #[(.int p1)] ∧ Z.Warmed39 U.vm ∧ U.heap = h0) (fun _ _ _ _ _ => True) (fun _ U o U' => ∃ v L, o = .returned v ∧ QP (some (.ref a_INVALID_IDENTIFIER)) h0 n0 v U'.heap L ∧ FrameEnd U o U' L R_0_0_0_0.cells R_0_0_0_0.slots) := by
  refine MetFree.of_bodySF (plainFor_of_name pn_com_example_corestone_corestone_LineRefusedPinLaw) hisR ?_
  intro p e s m args below meth c s₁ Bd hml0 hP hK
  obtain ⟨rfl, hZ, hh⟩ := hP
  have hx := Bd.exec
  have hby := Bd.bytes
  have hml : c.maxLocals = 2 := hml0
  have hown : s.vm.findClass "com/example/corestone/corestone/LineRefusedPinLaw" = some m.cls := findClass_of_methodNamed Bd.named
  have hnm := (name_of_methodNamed Bd.named Bd.method).1
  have X0 : Stand p l e R_0_0_0_0 s m #[(.int p1)] below meth c s₁ [] 0 0 := Stand.of_body Bd
  have e0 : s₁.heap = h0 := by rw [← hh, Bd.state]; rfl
  have N0 := Fr.nil n0
  obtain ⟨T1, X1, e1, st1⟩ := getS2 X0 hx hZ hown (host := "") (Or.inl (tw_76 hw)) Via.refl e0 f2 (g := (mkF m 18 #[.val (.int p1), .val (.int 1)] [])) rfl (hb hby d1_18)
  obtain ⟨fs, hr, hrun, hended, hW, hsame⟩ := X1.leave (v := (some (.ref a_INVALID_IDENTIFIER))) (fun h => by rw [Bd.returns] at h; cases h)
  refine ⟨_, _, castTop (ef1_I m p1) ?_, hrun, hended, _, _, rfl, ?_, ⟨_, rfl⟩, hW, hsame.mono (by decide) (by decide)⟩
  · show Steps p.tables e below (s₁.setTop (mkF m 0 #[.val (.int p1), .unset] [])) _
    refine XS.iloadN X0.here hx rfl (hb hby d1_0) rfl ?_
    refine XS.bipush X0.here hx rfl (hb hby d1_1) ?_
    show Steps p.tables e below (s₁.setTop (mkF m 3 #[.val (.int p1), .unset] [(.int 7), (.int p1)])) _
    refine XS.iand X0.here hx rfl (hb hby d1_3) rfl ?_
    show Steps p.tables e below (s₁.setTop (mkF m 4 #[.val (.int p1), .unset] [(.int (p1 &&& (7 : Int32)))])) _
    rw [f1]
    refine XS.istoreN X0.here hx rfl (hb hby d1_4) rfl (l' := #[.val (.int p1), .val (.int 1)]) rfl ?_
    refine XS.iloadN X0.here hx rfl (hb hby d1_5) rfl ?_
    refine XS.ifYes X0.here hx rfl (pc0 := 6) (pc' := 13) rfl (hb hby d1_6) rfl (by decide) (by decide) (by decide) ?_
    refine XS.iloadN X0.here hx rfl (hb hby d1_13) rfl ?_
    show Steps p.tables e below (s₁.setTop (mkF m 14 #[.val (.int p1), .val (.int 1)] [(.int 1)])) _
    refine XS.iconst X0.here hx rfl (hb hby d1_14) ?_
    refine XS.icmpNo X0.here hx rfl (hb hby d1_15) rfl (by decide) ?_
    show Steps p.tables e below (s₁.setTop (mkF m 18 #[.val (.int p1), .val (.int 1)] [])) _
    refine st1 _ ?_
    show Steps p.tables e below (T1.setTop (mkF m 21 #[.val (.int p1), .val (.int 1)] [(.ref a_INVALID_IDENTIFIER)])) _
    jvm_step X1.here [X1.here.top, hx, (hb hby d1_21), X1.method', Bd.returns, Value.isRef, FieldType.isReference]
    first | (intro acts; rw [hr _ acts rfl rfl rfl]) | rw [hr _ _ rfl rfl rfl]
    exact Steps.refl _
  · show QP (some (.ref a_INVALID_IDENTIFIER)) h0 n0 _ T1.heap _
    rw [e1]
    exact ⟨rfl, N0, rfl⟩
set_option maxRecDepth 65536 in
set_option maxHeartbeats 40000000 in
theorem rm5_42 (l : Launch) (Z : State) (a0 : Array Value) (hw : ∀ d ∈ tables_1, d.before a0 Z = true) (ws : List Jvm.Cond) (a_INVALID_IDENTIFIER : Addr) (h0 : Heap) (n0 : Nat) (Z0 : n0 ≤ h0.size) :
    MetFree l M_2 (head1 (Jvm.Cond.code M_2 jdk_31_method_10_code 1 (some (.object "java/lang/Object")) :: ws) R_0_0_0_0) (fun a U => a = #[(.ref a_INVALID_IDENTIFIER)] ∧ Z.Warmed39 U.vm ∧ U.heap = h0) (fun _ _ _ _ _ => True) (fun _ U o U' => ∃ v L, o = .returned v ∧ QP (some (.ref a_INVALID_IDENTIFIER)) h0 n0 v U'.heap L ∧ FrameEnd U o U' L R_0_0_0_0.cells R_0_0_0_0.slots) := by
  refine MetFree.of_bodySF (plainFor_of_name pn_java_util_Objects) hisR ?_
  intro p e s m args below meth c s₁ Bd hml0 hP hK
  obtain ⟨rfl, hZ, hh⟩ := hP
  have hx := Bd.exec
  have hby := Bd.bytes
  have hml : c.maxLocals = 1 := hml0
  have hown : s.vm.findClass "java/util/Objects" = some m.cls := findClass_of_methodNamed Bd.named
  have hnm := (name_of_methodNamed Bd.named Bd.method).1
  have X0 : Stand p l e R_0_0_0_0 s m #[(.ref a_INVALID_IDENTIFIER)] below meth c s₁ [] 0 0 := Stand.of_body Bd
  have e0 : s₁.heap = h0 := by rw [← hh, Bd.state]; rfl
  have N0 := Fr.nil n0
  obtain ⟨fs, hr, hrun, hended, hW, hsame⟩ := X0.leave (v := (some (.ref a_INVALID_IDENTIFIER))) (fun h => by rw [Bd.returns] at h; cases h)
  refine ⟨_, _, castTop (ef5_R m a_INVALID_IDENTIFIER) ?_, hrun, hended, _, _, rfl, ?_, ⟨_, rfl⟩, hW, hsame.mono (by decide) (by decide)⟩
  · show Steps p.tables e below (s₁.setTop (mkF m 0 #[.val (.ref a_INVALID_IDENTIFIER)] [])) _
    refine XS.aloadN X0.here hx rfl (hb hby d5_0) rfl rfl ?_
    refine XS.ifnonnullYes X0.here hx rfl (pc0 := 1) (pc' := 12) rfl (hb hby d5_1) rfl (by decide) (by decide) ?_
    refine XS.aloadN X0.here hx rfl (hb hby d5_12) rfl rfl ?_
    show Steps p.tables e below (s₁.setTop (mkF m 13 #[.val (.ref a_INVALID_IDENTIFIER)] [(.ref a_INVALID_IDENTIFIER)])) _
    jvm_step X0.here [X0.here.top, hx, (hb hby d5_13), X0.method', Bd.returns, Value.isRef, FieldType.isReference]
    first | (intro acts; rw [hr _ acts rfl rfl rfl]) | rw [hr _ _ rfl rfl rfl]
    exact Steps.refl _
  · show QP (some (.ref a_INVALID_IDENTIFIER)) h0 n0 _ s₁.heap _
    rw [e0]
    exact ⟨rfl, N0, rfl⟩
def Q6_44 (Z : State) (c0_a : Addr) (a_INVALID_IDENTIFIER : Addr) (h0 : Heap) (n0 : Nat) (v : Option Value) (h : Heap) (L : List Loc) : Prop := v = none ∧ Fr n0 L ∧ Keep h0 h [c0_a] ∧ F_0 Z h c0_a (.ref a_INVALID_IDENTIFIER)
set_option maxRecDepth 65536 in
set_option maxHeartbeats 40000000 in
theorem rm6_43 (l : Launch) (Z : State) (a0 : Array Value) (hw : ∀ d ∈ tables_1, d.before a0 Z = true) (ws : List Jvm.Cond) (c0_a : Addr) (a_INVALID_IDENTIFIER : Addr) (h0 : Heap) (n0 : Nat) (Z0 : n0 ≤ h0.size) (f1 : F_0 Z h0 c0_a .null) (f2 : E_1 Z h0 c0_a) (f3 : n0 ≤ c0_a) :
    MetFree l M_3 (head1 (Jvm.Cond.code M_3 jdk_32_method_2_code 2 none :: ws) R_1_0_0_12) (fun a U => a = #[(.ref c0_a), (.ref a_INVALID_IDENTIFIER)] ∧ Z.Warmed39 U.vm ∧ U.heap = h0) (fun _ _ _ _ _ => True) (fun _ U o U' => ∃ v L, o = .returned v ∧ Q6_44 Z c0_a a_INVALID_IDENTIFIER h0 n0 v U'.heap L ∧ FrameEnd U o U' L R_1_0_0_12.cells R_1_0_0_12.slots) := by
  refine MetFree.of_bodySF (plainFor_of_name pn_java_util_Optional) hisR ?_
  intro p e s m args below meth c s₁ Bd hml0 hP hK
  obtain ⟨rfl, hZ, hh⟩ := hP
  have hx := Bd.exec
  have hby := Bd.bytes
  have hml : c.maxLocals = 2 := hml0
  have hown : s.vm.findClass "java/util/Optional" = some m.cls := findClass_of_methodNamed Bd.named
  have hnm := (name_of_methodNamed Bd.named Bd.method).1
  have X0 : Stand p l e R_1_0_0_12 s m #[(.ref c0_a), (.ref a_INVALID_IDENTIFIER)] below meth c s₁ [] 0 0 := Stand.of_body Bd
  have e0 : s₁.heap = h0 := by rw [← hh, Bd.state]; rfl
  have N0 := Fr.nil n0
  obtain ⟨T1, X1, e1, st1⟩ := initO X0 hx hZ hown (tw_31 hw) (tw_32 hw) (tw_33 hw) e0 (g := (mkF m 1 #[.val (.ref c0_a), .val (.ref a_INVALID_IDENTIFIER)] [(.ref c0_a)])) rfl (by rw [hml]; rfl) rfl (hb hby d6_1) (by decide) (W := 0) (by show 2 * 0 + _ ≤ _; exact Nat.le_of_eq rfl) (by decide)
  obtain ⟨T2, h2, X2, e2, W2, st2⟩ := putF X1 hx hZ hown (host := "") (Or.inl (tw_34 hw)) Via.refl e1 f1 f2 (Or.inr ⟨(tw_35 hw), rfl, hnm⟩) (tw_22 hw) (ty := (.object "java/lang/Object")) (by decide) rfl rfl (g := (mkF m 6 #[.val (.ref c0_a), .val (.ref a_INVALID_IDENTIFIER)] [(.ref a_INVALID_IDENTIFIER), (.ref c0_a)])) rfl rfl (hb hby d6_6)
  have Fw2 : F_0 Z h2 c0_a (.ref a_INVALID_IDENTIFIER) := Fld.same W2 f1
  have KK2 : Keep h0 h2 [c0_a] := (Keep.refl h0 [c0_a]).wr W2 (Or.inl (List.mem_of_getElem? (i := 0) rfl))
  have N2 := Fr.snoc X2 N0 f3
  obtain ⟨fs, hr, hrun, hended, hW, hsame⟩ := X2.leave (v := none) (fun _ => rfl)
  refine ⟨_, _, castTop (ef6_RR m c0_a a_INVALID_IDENTIFIER) ?_, hrun, hended, _, _, rfl, ?_, ⟨_, rfl⟩, hW, hsame.mono (by decide) (by decide)⟩
  · show Steps p.tables e below (s₁.setTop (mkF m 0 #[.val (.ref c0_a), .val (.ref a_INVALID_IDENTIFIER)] [])) _
    refine XS.aloadN X0.here hx rfl (hb hby d6_0) rfl rfl ?_
    show Steps p.tables e below (s₁.setTop (mkF m 1 #[.val (.ref c0_a), .val (.ref a_INVALID_IDENTIFIER)] [(.ref c0_a)])) _
    refine st1 _ ?_
    refine XS.aloadN X1.here hx rfl (hb hby d6_4) rfl rfl ?_
    refine XS.aloadN X1.here hx rfl (hb hby d6_5) rfl rfl ?_
    show Steps p.tables e below (T1.setTop (mkF m 6 #[.val (.ref c0_a), .val (.ref a_INVALID_IDENTIFIER)] [(.ref a_INVALID_IDENTIFIER), (.ref c0_a)])) _
    refine st2 _ ?_
    show Steps p.tables e below (T2.setTop (mkF m 9 #[.val (.ref c0_a), .val (.ref a_INVALID_IDENTIFIER)] [])) _
    exact X2.returnOut hx Bd.returns (hb hby d6_9) hr
  · show Q6_44 Z c0_a a_INVALID_IDENTIFIER h0 n0 _ T2.heap _
    rw [e2]
    exact ⟨rfl, N2, KK2, Fw2⟩
def Q4_46 (Z : State) (a_INVALID_IDENTIFIER : Addr) (h0 : Heap) (n0 : Nat) (v : Option Value) (h : Heap) (L : List Loc) : Prop := ∃ (b41 : Addr), v = (some (.ref b41)) ∧ Fr n0 L ∧ Keep h0 h [] ∧ h0.size ≤ b41 ∧ E_1 Z h b41 ∧ F_0 Z h b41 (.ref a_INVALID_IDENTIFIER)
set_option maxRecDepth 65536 in
set_option maxHeartbeats 40000000 in
theorem rm4_45 (l : Launch) (Z : State) (a0 : Array Value) (hw : ∀ d ∈ tables_1, d.before a0 Z = true) (ws : List Jvm.Cond) (a_INVALID_IDENTIFIER : Addr) (h0 : Heap) (n0 : Nat) (Z0 : n0 ≤ h0.size) :
    MetFree l M_4 (head1 (Jvm.Cond.code M_4 jdk_32_method_3_code 1 (some (.object "java/util/Optional")) :: ws) R_2_1_1_26) (fun a U => a = #[(.ref a_INVALID_IDENTIFIER)] ∧ Z.Warmed39 U.vm ∧ U.heap = h0) (fun _ _ _ _ _ => True) (fun _ U o U' => ∃ v L, o = .returned v ∧ Q4_46 Z a_INVALID_IDENTIFIER h0 n0 v U'.heap L ∧ FrameEnd U o U' L R_2_1_1_26.cells R_2_1_1_26.slots) := by
  refine MetFree.of_bodySF (plainFor_of_name pn_java_util_Optional) hisR ?_
  intro p e s m args below meth c s₁ Bd hml0 hP hK
  obtain ⟨rfl, hZ, hh⟩ := hP
  have hx := Bd.exec
  have hby := Bd.bytes
  have hml : c.maxLocals = 1 := hml0
  have hown : s.vm.findClass "java/util/Optional" = some m.cls := findClass_of_methodNamed Bd.named
  have hnm := (name_of_methodNamed Bd.named Bd.method).1
  have X0 : Stand p l e R_2_1_1_26 s m #[(.ref a_INVALID_IDENTIFIER)] below meth c s₁ [] 0 0 := Stand.of_body Bd
  have e0 : s₁.heap = h0 := by rw [← hh, Bd.state]; rfl
  have N0 := Fr.nil n0
  obtain ⟨T1, h1, X1, e1, E1, A1, D1, -, st1⟩ := newO X0 hx hZ hown (tw_21 hw) (tw_22 hw) (tw_15 hw) e0 (g := (mkF m 0 #[.val (.ref a_INVALID_IDENTIFIER)] [])) rfl (hb hby d4_0) (by decide) (by decide)
  obtain ⟨b41, g1⟩ : ∃ z, z = h0.size := ⟨_, rfl⟩
  rw [← g1] at A1 D1 st1
  have sz_b41 : h0.size ≤ b41 := Nat.le_trans (Nat.le_refl _) (Nat.le_of_eq g1.symm)
  have g_b41 : n0 ≤ b41 := Nat.le_trans Z0 sz_b41
  have KK1 : Keep h0 h1 [] := (Keep.refl h0 []).ext E1
  have F1_35 : F_0 Z h1 b41 .null := D1 (Or.inr (tw_35 hw)) (ty := (.object "java/lang/Object")) (by decide)
  -- pc 5: java/util/Objects.requireNonNull
  obtain ⟨_, _, ⟨T2, L2, k2, n2⟩, -, X2, ⟨Lc2, hQ2, l2, y2, z2⟩, st2⟩ := Jvm.LawKit.callS X1 hx (y := M_2) hown (mvT hZ (tw_23 hw)) (mvT hZ (tw_24 hw)) (mvT hZ (tw_25 hw)) (mvT hZ (tw_26 hw)) (by decide) (backOf (W := 2) (rm5_42 l Z a0 hw [] a_INVALID_IDENTIFIER h1 n0 (Nat.le_trans Z0 KK1.1) ) hZ (tw_26 hw) (tw_25 hw) (by decide) (by decide)) (g := (mkF m 5 #[.val (.ref a_INVALID_IDENTIFIER)] [(.ref a_INVALID_IDENTIFIER), (.ref b41), (.ref b41)])) rfl (by rw [hml]; rfl) (argsL := [(.ref a_INVALID_IDENTIFIER)]) (rest := [(.ref b41), (.ref b41)]) (lenOf pd_2 rfl) rfl (by show 2 * 0 + _ ≤ _; exact Nat.le_of_eq rfl) (hb hby d4_5) (fun _ _ => ⟨rfl, e1, (by decide : 1 + 0 ≤ _), (by decide : 1 + 0 ≤ _)⟩)
  dsimp only [Pt.U, Pt.locs, Pt.cells, Pt.slots] at X2 l2 y2 z2 st2 hQ2
  subst l2 y2 z2
  obtain ⟨rfl, Nq2, e2⟩ := hQ2
  have N2 := Fr.app N0 Nq2
  -- pc 8: java/util/Optional.<init>
  obtain ⟨_, _, ⟨T3, L3, k3, n3⟩, -, X3, ⟨Lc3, hQ3, l3, y3, z3⟩, st3⟩ := X2.specialBack hx (y := M_3) rfl hown (mvT hZ (tw_27 hw)) (mvT hZ (tw_28 hw)) (mvT hZ (tw_30 hw)) (by decide) (backOf (W := 1) (rm6_43 l Z a0 hw [] b41 a_INVALID_IDENTIFIER h1 n0 (Nat.le_trans Z0 KK1.1) F1_35 A1 g_b41) hZ (tw_30 hw) (tw_15 hw) (by decide) (by decide)) (g := (mkF m 8 #[.val (.ref a_INVALID_IDENTIFIER)] [(.ref a_INVALID_IDENTIFIER), (.ref b41), (.ref b41)])) rfl (by rw [hml]; rfl) (Steps.refl _) (a := b41) (argsL := [(.ref a_INVALID_IDENTIFIER)]) (rest := [(.ref b41)]) (lenOf pd_3 rfl) rfl (by show 2 * 0 + _ ≤ _; exact Nat.le_of_eq rfl) (hb hby d4_8) (fun _ _ => ⟨rfl, e2, (by decide : 1 + 0 ≤ _), (by decide : 1 + 0 ≤ _)⟩)
  dsimp only [Pt.U, Pt.locs, Pt.cells, Pt.slots] at X3 l3 y3 z3 st3 hQ3
  subst l3 y3 z3
  obtain ⟨rfl, Nq3, K3, o3_0⟩ := hQ3
  have N3 := Fr.app N2 Nq3
  have KK3 : Keep h0 T3.heap [] := KK1.trans K3 (fun x hx => (List.mem_cons.mp hx).elim (fun q => q ▸ (Or.inr sz_b41)) (fun hx => nomatch hx))
  have u4 : E_1 Z T3.heap b41 := Exa.keep A1 K3
  obtain ⟨fs, hr, hrun, hended, hW, hsame⟩ := X3.leave (v := (some (.ref b41))) (fun h => by rw [Bd.returns] at h; cases h)
  refine ⟨_, _, castTop (ef4_R m a_INVALID_IDENTIFIER) ?_, hrun, hended, _, _, rfl, ?_, ⟨_, rfl⟩, hW, hsame.mono (by decide) (by decide)⟩
  · show Steps p.tables e below (s₁.setTop (mkF m 0 #[.val (.ref a_INVALID_IDENTIFIER)] [])) _
    refine st1 _ ?_
    refine XS.dup X1.here hx rfl (hb hby d4_3) rfl rfl ?_
    refine XS.aloadN X1.here hx rfl (hb hby d4_4) rfl rfl ?_
    show Steps p.tables e below (T1.setTop (mkF m 5 #[.val (.ref a_INVALID_IDENTIFIER)] [(.ref a_INVALID_IDENTIFIER), (.ref b41), (.ref b41)])) _
    refine st2 _ ?_
    show Steps p.tables e below (T2.setTop (mkF m 8 #[.val (.ref a_INVALID_IDENTIFIER)] [(.ref a_INVALID_IDENTIFIER), (.ref b41), (.ref b41)])) _
    refine st3.trans ?_
    show Steps p.tables e below (T3.setTop (mkF m 11 #[.val (.ref a_INVALID_IDENTIFIER)] [(.ref b41)])) _
    jvm_step X3.here [X3.here.top, hx, (hb hby d4_11), X3.method', Bd.returns, Value.isRef, FieldType.isReference]
    first | (intro acts; rw [hr _ acts rfl rfl rfl]) | rw [hr _ _ rfl rfl rfl]
    exact Steps.refl _
  · show Q4_46 Z a_INVALID_IDENTIFIER h0 n0 _ T3.heap _
    exact ⟨b41, rfl, N3, KK3, sz_b41, u4, o3_0⟩
def Q2_49 (Z : State) (p0 : Int32) (a_EMPTY : Addr) (a_INVALID_IDENTIFIER : Addr) (h0 : Heap) (n0 : Nat) (v : Option Value) (h : Heap) (L : List Loc) : Prop := ∃ (b40 : Addr) (b47 : Addr), v = (some (.ref b40)) ∧ Fr n0 L ∧ Keep h0 h [] ∧ h0.size ≤ b40 ∧ h0.size ≤ b47 ∧ E_2 Z h b40 ∧ F_1 Z h b40 (.int p0) ∧ F_2 Z h b40 (.ref a_EMPTY) ∧ F_3 Z h b40 (.ref b47) ∧ E_1 Z h b47 ∧ F_0 Z h b47 (.ref a_INVALID_IDENTIFIER) ∧ b40 ≠ b47
set_option maxRecDepth 65536 in
set_option maxHeartbeats 40000000 in
theorem rm2_48 (l : Launch) (Z : State) (a0 : Array Value) (hw : ∀ d ∈ tables_1, d.before a0 Z = true) (ws : List Jvm.Cond) (p0 : Int32) (a_INVALID_IDENTIFIER : Addr) (a_EMPTY : Addr) (h0 : Heap) (n0 : Nat) (Z0 : n0 ≤ h0.size) (f1 : S_8 Z h0 (.ref a_EMPTY)) :
    MetFree l M_7 (head1 (Jvm.Cond.code M_7 prog_3_method_3_code 2 (some (.object "com/example/corestone/corestone/BulkRequest$Line")) :: ws) R_3_2_4_42) (fun a U => a = #[(.int p0), (.ref a_INVALID_IDENTIFIER)] ∧ Z.Warmed39 U.vm ∧ U.heap = h0) (fun _ _ _ _ _ => True) (fun _ U o U' => ∃ v L, o = .returned v ∧ Q2_49 Z p0 a_EMPTY a_INVALID_IDENTIFIER h0 n0 v U'.heap L ∧ FrameEnd U o U' L R_3_2_4_42.cells R_3_2_4_42.slots) := by
  refine MetFree.of_bodySF (plainFor_of_name pn_com_example_corestone_corestone_BulkRequest_Line) hisR ?_
  intro p e s m args below meth c s₁ Bd hml0 hP hK
  obtain ⟨rfl, hZ, hh⟩ := hP
  have hx := Bd.exec
  have hby := Bd.bytes
  have hml : c.maxLocals = 2 := hml0
  have hown : s.vm.findClass "com/example/corestone/corestone/BulkRequest$Line" = some m.cls := findClass_of_methodNamed Bd.named
  have hnm := (name_of_methodNamed Bd.named Bd.method).1
  have X0 : Stand p l e R_3_2_4_42 s m #[(.int p0), (.ref a_INVALID_IDENTIFIER)] below meth c s₁ [] 0 0 := Stand.of_body Bd
  have e0 : s₁.heap = h0 := by rw [← hh, Bd.state]; rfl
  have N0 := Fr.nil n0
  obtain ⟨T1, h1, X1, e1, E1, A1, D1, -, st1⟩ := newO X0 hx hZ hown (tw_11 hw) (tw_12 hw) (tw_9 hw) e0 (g := (mkF m 0 #[.val (.int p0), .val (.ref a_INVALID_IDENTIFIER)] [])) rfl (hb hby d2_0) (by decide) (by decide)
  obtain ⟨b40, g1⟩ : ∃ z, z = h0.size := ⟨_, rfl⟩
  rw [← g1] at A1 D1 st1
  have sz_b40 : h0.size ≤ b40 := Nat.le_trans (Nat.le_refl _) (Nat.le_of_eq g1.symm)
  have g_b40 : n0 ≤ b40 := Nat.le_trans Z0 sz_b40
  have KK1 : Keep h0 h1 [] := (Keep.refl h0 []).ext E1
  have F1_46 : F_1 Z h1 b40 (.int 0) := D1 (Or.inr (tw_46 hw)) (ty := .int) (by decide)
  have F1_48 : F_2 Z h1 b40 .null := D1 (Or.inr (tw_48 hw)) (ty := (.object "java/util/Optional")) (by decide)
  have F1_50 : F_3 Z h1 b40 .null := D1 (Or.inr (tw_50 hw)) (ty := (.object "java/util/Optional")) (by decide)
  -- pc 5: java/util/Optional.empty
  have u2 : S_8 Z h1 (.ref a_EMPTY) := Sta.ext E1 f1
  obtain ⟨_, _, ⟨T3, L3, k3, n3⟩, -, X3, ⟨Lc3, hQ3, l3, y3, z3⟩, st3⟩ := Jvm.LawKit.callS X1 hx (y := M_1) hown (mvT hZ (tw_13 hw)) (mvT hZ (tw_14 hw)) (mvT hZ (tw_15 hw)) (mvT hZ (tw_16 hw)) (by decide) (backOf (W := 3) (rm3_17 l Z a0 hw [] a_EMPTY h1 n0 (Nat.le_trans Z0 KK1.1) u2) hZ (tw_16 hw) (tw_15 hw) (by decide) (by decide)) (g := (mkF m 5 #[.val (.int p0), .val (.ref a_INVALID_IDENTIFIER)] [(.int p0), (.ref b40), (.ref b40)])) rfl (by rw [hml]; rfl) (argsL := []) (rest := [(.int p0), (.ref b40), (.ref b40)]) (lenOf pd_1 rfl) rfl (by show 2 * 0 + _ ≤ _; exact Nat.le_of_eq rfl) (hb hby d2_5) (fun _ _ => ⟨rfl, e1, (by decide : 1 + 0 ≤ _), (by decide : 3 + 0 ≤ _)⟩)
  dsimp only [Pt.U, Pt.locs, Pt.cells, Pt.slots] at X3 l3 y3 z3 st3 hQ3
  subst l3 y3 z3
  obtain ⟨rfl, Nq3, e3⟩ := hQ3
  have N3 := Fr.app N0 Nq3
  -- pc 9: java/util/Optional.of
  obtain ⟨_, _, ⟨T4, L4, k4, n4⟩, -, X4, ⟨Lc4, hQ4, l4, y4, z4⟩, st4⟩ := Jvm.LawKit.callS X3 hx (y := M_4) hown (mvT hZ (tw_18 hw)) (mvT hZ (tw_19 hw)) (mvT hZ (tw_15 hw)) (mvT hZ (tw_20 hw)) (by decide) (backOf (W := 4) (rm4_45 l Z a0 hw [] a_INVALID_IDENTIFIER h1 n0 (Nat.le_trans Z0 KK1.1) ) hZ (tw_20 hw) (tw_15 hw) (by decide) (by decide)) (g := (mkF m 9 #[.val (.int p0), .val (.ref a_INVALID_IDENTIFIER)] [(.ref a_INVALID_IDENTIFIER), (.ref a_EMPTY), (.int p0), (.ref b40), (.ref b40)])) rfl (by rw [hml]; rfl) (argsL := [(.ref a_INVALID_IDENTIFIER)]) (rest := [(.ref a_EMPTY), (.int p0), (.ref b40), (.ref b40)]) (lenOf pd_4 rfl) rfl (by show 2 * 0 + _ ≤ _; exact Nat.le_of_eq rfl) (hb hby d2_9) (fun _ _ => ⟨rfl, e3, (by decide : 1 + 1 ≤ _), (by decide : 3 + 1 ≤ _)⟩)
  dsimp only [Pt.U, Pt.locs, Pt.cells, Pt.slots] at X4 l4 y4 z4 st4 hQ4
  subst l4 y4 z4
  obtain ⟨b47, rfl, Nq4, K4, le_b47, o4_0, o4_1⟩ := hQ4
  have N4 := Fr.app N3 Nq4
  have sz_b47 : h0.size ≤ b47 := Nat.le_trans KK1.1 le_b47
  have g_b47 : n0 ≤ b47 := Nat.le_trans Z0 sz_b47
  have KK4 : Keep h0 T4.heap [] := KK1.trans K4 (fun x hx => nomatch hx)
  -- pc 12: com/example/corestone/corestone/BulkRequest$Line.<init>
  have u5 : F_1 Z T4.heap b40 (.int 0) := Fld.keep F1_46 K4 List.not_mem_nil
  have u6 : E_2 Z T4.heap b40 := Exa.keep A1 K4
  have u7 : F_2 Z T4.heap b40 .null := Fld.keep F1_48 K4 List.not_mem_nil
  have u8 : F_3 Z T4.heap b40 .null := Fld.keep F1_50 K4 List.not_mem_nil
  obtain ⟨_, _, ⟨T9, L9, k9, n9⟩, -, X9, ⟨Lc9, hQ9, l9, y9, z9⟩, st9⟩ := X4.specialBack hx (y := M_6) rfl hown (mvT hZ (tw_36 hw)) (mvT hZ (tw_37 hw)) (mvT hZ (tw_38 hw)) (by decide) (backOf (W := 1) (rm8_26 l Z a0 hw [] b40 p0 a_EMPTY b47 T4.heap n0 (Nat.le_trans Z0 KK4.1) u5 u6 g_b40 u7 u8) hZ (tw_38 hw) (tw_9 hw) (by decide) (by decide)) (g := (mkF m 12 #[.val (.int p0), .val (.ref a_INVALID_IDENTIFIER)] [(.ref b47), (.ref a_EMPTY), (.int p0), (.ref b40), (.ref b40)])) rfl (by rw [hml]; rfl) (Steps.refl _) (a := b40) (argsL := [(.int p0), (.ref a_EMPTY), (.ref b47)]) (rest := [(.ref b40)]) (lenOf pd_6 rfl) rfl (by show 2 * 0 + _ ≤ _; exact Nat.le_of_eq rfl) (hb hby d2_12) (fun _ _ => ⟨rfl, rfl, (by decide : 2 + 0 ≤ _), (by decide : 4 + 0 ≤ _)⟩)
  dsimp only [Pt.U, Pt.locs, Pt.cells, Pt.slots] at X9 l9 y9 z9 st9 hQ9
  subst l9 y9 z9
  obtain ⟨rfl, Nq9, K9, o9_0, o9_1, o9_2⟩ := hQ9
  have N9 := Fr.app N4 Nq9
  have KK9 : Keep h0 T9.heap [] := KK4.trans K9 (fun x hx => (List.mem_cons.mp hx).elim (fun q => q ▸ (Or.inr sz_b40)) (fun hx => nomatch hx))
  have u10 : E_2 Z T9.heap b40 := Exa.keep u6 K9
  have u11 : E_1 Z T9.heap b47 := Exa.keep o4_0 K9
  have ne12 : b40 ≠ b47 := Nat.ne_of_lt (Nat.lt_of_lt_of_le (Exa.lt A1) le_b47)
  have u13 : F_0 Z T9.heap b47 (.ref a_INVALID_IDENTIFIER) := Fld.keep o4_1 K9 (own_notin (Ne.symm ne12) List.not_mem_nil)
  obtain ⟨fs, hr, hrun, hended, hW, hsame⟩ := X9.leave (v := (some (.ref b40))) (fun h => by rw [Bd.returns] at h; cases h)
  refine ⟨_, _, castTop (ef2_IR m p0 a_INVALID_IDENTIFIER) ?_, hrun, hended, _, _, rfl, ?_, ⟨_, rfl⟩, hW, hsame.mono (by decide) (by decide)⟩
  · show Steps p.tables e below (s₁.setTop (mkF m 0 #[.val (.int p0), .val (.ref a_INVALID_IDENTIFIER)] [])) _
    refine st1 _ ?_
    refine XS.dup X1.here hx rfl (hb hby d2_3) rfl rfl ?_
    refine XS.iloadN X1.here hx rfl (hb hby d2_4) rfl ?_
    show Steps p.tables e below (T1.setTop (mkF m 5 #[.val (.int p0), .val (.ref a_INVALID_IDENTIFIER)] [(.int p0), (.ref b40), (.ref b40)])) _
    refine st3 _ ?_
    refine XS.aloadN X3.here hx rfl (hb hby d2_8) rfl rfl ?_
    show Steps p.tables e below (T3.setTop (mkF m 9 #[.val (.int p0), .val (.ref a_INVALID_IDENTIFIER)] [(.ref a_INVALID_IDENTIFIER), (.ref a_EMPTY), (.int p0), (.ref b40), (.ref b40)])) _
    refine st4 _ ?_
    show Steps p.tables e below (T4.setTop (mkF m 12 #[.val (.int p0), .val (.ref a_INVALID_IDENTIFIER)] [(.ref b47), (.ref a_EMPTY), (.int p0), (.ref b40), (.ref b40)])) _
    refine st9.trans ?_
    show Steps p.tables e below (T9.setTop (mkF m 15 #[.val (.int p0), .val (.ref a_INVALID_IDENTIFIER)] [(.ref b40)])) _
    jvm_step X9.here [X9.here.top, hx, (hb hby d2_15), X9.method', Bd.returns, Value.isRef, FieldType.isReference]
    first | (intro acts; rw [hr _ acts rfl rfl rfl]) | rw [hr _ _ rfl rfl rfl]
    exact Steps.refl _
  · show Q2_49 Z p0 a_EMPTY a_INVALID_IDENTIFIER h0 n0 _ T9.heap _
    exact ⟨b40, b47, rfl, N9, KK9, sz_b40, sz_b47, u10, o9_0, o9_1, o9_2, u11, u13, ne12⟩
set_option maxRecDepth 65536 in
set_option maxHeartbeats 40000000 in
theorem rm12_52 (l : Launch) (Z : State) (a0 : Array Value) (hw : ∀ d ∈ tables_1, d.before a0 Z = true) (ws : List Jvm.Cond) (c0_a : Addr) (a_INVALID_IDENTIFIER : Addr) (h0 : Heap) (n0 : Nat) (Z0 : n0 ≤ h0.size) (f1 : F_0 Z h0 c0_a (.ref a_INVALID_IDENTIFIER)) :
    MetFree l M_10 (head1 (Jvm.Cond.code M_10 jdk_32_method_6_code 1 (some .boolean) :: ws) R_0_0_0_0) (fun a U => a = #[(.ref c0_a)] ∧ Z.Warmed39 U.vm ∧ U.heap = h0) (fun _ _ _ _ _ => True) (fun _ U o U' => ∃ v L, o = .returned v ∧ QP (some (.int 1)) h0 n0 v U'.heap L ∧ FrameEnd U o U' L R_0_0_0_0.cells R_0_0_0_0.slots) := by
  refine MetFree.of_bodySF (plainFor_of_name pn_java_util_Optional) hisR ?_
  intro p e s m args below meth c s₁ Bd hml0 hP hK
  obtain ⟨rfl, hZ, hh⟩ := hP
  have hx := Bd.exec
  have hby := Bd.bytes
  have hml : c.maxLocals = 1 := hml0
  have hown : s.vm.findClass "java/util/Optional" = some m.cls := findClass_of_methodNamed Bd.named
  have hnm := (name_of_methodNamed Bd.named Bd.method).1
  have X0 : Stand p l e R_0_0_0_0 s m #[(.ref c0_a)] below meth c s₁ [] 0 0 := Stand.of_body Bd
  have e0 : s₁.heap = h0 := by rw [← hh, Bd.state]; rfl
  have N0 := Fr.nil n0
  obtain ⟨T1, X1, e1, st1⟩ := getF X0 hx hZ hown (host := "") (Or.inl (tw_34 hw)) Via.refl e0 f1 (g := (mkF m 1 #[.val (.ref c0_a)] [(.ref c0_a)])) rfl rfl (hb hby d12_1)
  obtain ⟨fs, hr, hrun, hended, hW, hsame⟩ := X1.leave (v := (some (.int 1))) (fun h => by rw [Bd.returns] at h; cases h)
  refine ⟨_, _, castTop (ef12_R m c0_a) ?_, hrun, hended, _, _, rfl, ?_, ⟨_, rfl⟩, hW, hsame.mono (by decide) (by decide)⟩
  · show Steps p.tables e below (s₁.setTop (mkF m 0 #[.val (.ref c0_a)] [])) _
    refine XS.aloadN X0.here hx rfl (hb hby d12_0) rfl rfl ?_
    show Steps p.tables e below (s₁.setTop (mkF m 1 #[.val (.ref c0_a)] [(.ref c0_a)])) _
    refine st1 _ ?_
    refine XS.ifnullNo X1.here hx rfl (hb hby d12_4) rfl ?_
    refine XS.iconst X1.here hx rfl (hb hby d12_7) ?_
    refine XS.goto X1.here hx rfl (pc0 := 8) (pc' := 12) rfl (hb hby d12_8) (by decide) (by decide) ?_
    show Steps p.tables e below (T1.setTop (mkF m 12 #[.val (.ref c0_a)] [(.int 1)])) _
    exact retN X1 hx (t := .boolean) Bd.returns (by simp) (hb hby d12_12) hr
  · show QP (some (.int 1)) h0 n0 _ T1.heap _
    rw [e1]
    exact ⟨rfl, N0, rfl⟩
set_option maxRecDepth 65536 in
set_option maxHeartbeats 40000000 in
theorem rm14_53 (l : Launch) (Z : State) (a0 : Array Value) (hw : ∀ d ∈ tables_1, d.before a0 Z = true) (ws : List Jvm.Cond) (c0_a : Addr) (a_INVALID_IDENTIFIER : Addr) (h0 : Heap) (n0 : Nat) (Z0 : n0 ≤ h0.size) (f1 : F_0 Z h0 c0_a (.ref a_INVALID_IDENTIFIER)) :
    MetFree l M_12 (head1 (Jvm.Cond.code M_12 jdk_32_method_5_code 1 (some (.object "java/lang/Object")) :: ws) R_0_0_0_0) (fun a U => a = #[(.ref c0_a)] ∧ Z.Warmed39 U.vm ∧ U.heap = h0) (fun _ _ _ _ _ => True) (fun _ U o U' => ∃ v L, o = .returned v ∧ QP (some (.ref a_INVALID_IDENTIFIER)) h0 n0 v U'.heap L ∧ FrameEnd U o U' L R_0_0_0_0.cells R_0_0_0_0.slots) := by
  refine MetFree.of_bodySF (plainFor_of_name pn_java_util_Optional) hisR ?_
  intro p e s m args below meth c s₁ Bd hml0 hP hK
  obtain ⟨rfl, hZ, hh⟩ := hP
  have hx := Bd.exec
  have hby := Bd.bytes
  have hml : c.maxLocals = 1 := hml0
  have hown : s.vm.findClass "java/util/Optional" = some m.cls := findClass_of_methodNamed Bd.named
  have hnm := (name_of_methodNamed Bd.named Bd.method).1
  have X0 : Stand p l e R_0_0_0_0 s m #[(.ref c0_a)] below meth c s₁ [] 0 0 := Stand.of_body Bd
  have e0 : s₁.heap = h0 := by rw [← hh, Bd.state]; rfl
  have N0 := Fr.nil n0
  obtain ⟨T1, X1, e1, st1⟩ := getF X0 hx hZ hown (host := "") (Or.inl (tw_34 hw)) Via.refl e0 f1 (g := (mkF m 1 #[.val (.ref c0_a)] [(.ref c0_a)])) rfl rfl (hb hby d14_1)
  obtain ⟨T2, X2, e2, st2⟩ := getF X1 hx hZ hown (host := "") (Or.inl (tw_34 hw)) Via.refl e1 f1 (g := (mkF m 18 #[.val (.ref c0_a)] [(.ref c0_a)])) rfl rfl (hb hby d14_18)
  obtain ⟨fs, hr, hrun, hended, hW, hsame⟩ := X2.leave (v := (some (.ref a_INVALID_IDENTIFIER))) (fun h => by rw [Bd.returns] at h; cases h)
  refine ⟨_, _, castTop (ef14_R m c0_a) ?_, hrun, hended, _, _, rfl, ?_, ⟨_, rfl⟩, hW, hsame.mono (by decide) (by decide)⟩
  · show Steps p.tables e below (s₁.setTop (mkF m 0 #[.val (.ref c0_a)] [])) _
    refine XS.aloadN X0.here hx rfl (hb hby d14_0) rfl rfl ?_
    show Steps p.tables e below (s₁.setTop (mkF m 1 #[.val (.ref c0_a)] [(.ref c0_a)])) _
    refine st1 _ ?_
    refine XS.ifnonnullYes X1.here hx rfl (pc0 := 4) (pc' := 17) rfl (hb hby d14_4) rfl (by decide) (by decide) ?_
    refine XS.aloadN X1.here hx rfl (hb hby d14_17) rfl rfl ?_
    show Steps p.tables e below (T1.setTop (mkF m 18 #[.val (.ref c0_a)] [(.ref c0_a)])) _
    refine st2 _ ?_
    show Steps p.tables e below (T2.setTop (mkF m 21 #[.val (.ref c0_a)] [(.ref a_INVALID_IDENTIFIER)])) _
    jvm_step X2.here [X2.here.top, hx, (hb hby d14_21), X2.method', Bd.returns, Value.isRef, FieldType.isReference]
    first | (intro acts; rw [hr _ acts rfl rfl rfl]) | rw [hr _ _ rfl rfl rfl]
    exact Steps.refl _
  · show QP (some (.ref a_INVALID_IDENTIFIER)) h0 n0 _ T2.heap _
    rw [e2]
    exact ⟨rfl, N0, rfl⟩
set_option maxRecDepth 65536 in
set_option maxHeartbeats 40000000 in
theorem rm0_54 (l : Launch) (Z : State) (a0 : Array Value) (hw : ∀ d ∈ tables_1, d.before a0 Z = true) (ws : List Jvm.Cond) (p0 : Int32) (p1 : Int32) (a_INVALID_IDENTIFIER : Addr) (a_EMPTY : Addr) (h0 : Heap) (n0 : Nat) (Z0 : n0 ≤ h0.size) (f1 : (p1 &&& (7 : Int32)) = (1 : Int32)) (f2 : S_1 Z h0 (.ref a_INVALID_IDENTIFIER)) (f3 : S_8 Z h0 (.ref a_EMPTY)) (f4 : F_0 Z h0 a_EMPTY .null) (f5 : E_1 Z h0 a_EMPTY) :
    MetFree l x (head1 (Jvm.Cond.code x code maxLocals ret :: ws) room_1) (fun a U => a = #[(.int p0), (.int p1)] ∧ Z.Warmed39 U.vm ∧ U.heap = h0) (fun _ _ _ _ _ => True) (fun _ U o U' => ∃ v L, o = .returned v ∧ QT n0 v U'.heap L ∧ FrameEnd U o U' L room_1.cells room_1.slots) := by
  refine MetFree.of_bodySF (plainFor_of_name pn_com_example_corestone_corestone_LineRefusedPinLaw) hisR ?_
  intro p e s m args below meth c s₁ Bd hml0 hP hK
  obtain ⟨rfl, hZ, hh⟩ := hP
  have hx := Bd.exec
  have hby := Bd.bytes
  have hml : c.maxLocals = 4 := hml0
  have hown : s.vm.findClass "com/example/corestone/corestone/LineRefusedPinLaw" = some m.cls := findClass_of_methodNamed Bd.named
  have hnm := (name_of_methodNamed Bd.named Bd.method).1
  have X0 : Stand p l e room_1 s m #[(.int p0), (.int p1)] below meth c s₁ [] 0 0 := Stand.of_body Bd
  have e0 : s₁.heap = h0 := by rw [← hh, Bd.state]; rfl
  have N0 := Fr.nil n0
  -- pc 1: com/example/corestone/corestone/LineRefusedPinLaw.pick
  obtain ⟨_, _, ⟨T1, L1, k1, n1⟩, -, X1, ⟨Lc1, hQ1, l1, y1, z1⟩, st1⟩ := Jvm.LawKit.callS X0 hx (y := M_0) hown (mvT hZ (tw_0 hw)) (mvT hZ (tw_1 hw)) (mvT hZ (tw_2 hw)) (mvT hZ (tw_3 hw)) (by decide) (backOf (W := 0) (rm1_39 l Z a0 hw [] p1 a_INVALID_IDENTIFIER h0 n0 Z0 f1 f2) hZ (tw_3 hw) (tw_2 hw) (by decide) (by decide)) (g := (mkF m 1 #[.val (.int p0), .val (.int p1), .unset, .unset] [(.int p1)])) rfl (by rw [hml]; rfl) (argsL := [(.int p1)]) (rest := []) (lenOf pd_0 rfl) rfl (by show 2 * 0 + _ ≤ _; exact Nat.le_of_eq rfl) (hb hby at_1) (fun _ _ => ⟨rfl, e0, (by decide : 0 + 0 ≤ _), (by decide : 0 + 0 ≤ _)⟩)
  dsimp only [Pt.U, Pt.locs, Pt.cells, Pt.slots] at X1 l1 y1 z1 st1 hQ1
  subst l1 y1 z1
  obtain ⟨rfl, Nq1, e1⟩ := hQ1
  have N1 := Fr.app N0 Nq1
  -- pc 7: com/example/corestone/corestone/BulkRequest$Line.refused
  obtain ⟨_, _, ⟨T2, L2, k2, n2⟩, -, X2, ⟨Lc2, hQ2, l2, y2, z2⟩, st2⟩ := Jvm.LawKit.callS X1 hx (y := M_7) hown (mvT hZ (tw_7 hw)) (mvT hZ (tw_8 hw)) (mvT hZ (tw_9 hw)) (mvT hZ (tw_10 hw)) (by decide) (backOf (W := 0) (rm2_48 l Z a0 hw [] p0 a_INVALID_IDENTIFIER a_EMPTY h0 n0 Z0 f3) hZ (tw_10 hw) (tw_9 hw) (by decide) (by decide)) (g := (mkF m 7 #[.val (.int p0), .val (.int p1), .val (.ref a_INVALID_IDENTIFIER), .unset] [(.ref a_INVALID_IDENTIFIER), (.int p0)])) rfl (by rw [hml]; rfl) (argsL := [(.int p0), (.ref a_INVALID_IDENTIFIER)]) (rest := []) (lenOf pd_7 rfl) rfl (by show 2 * 0 + _ ≤ _; exact Nat.le_of_eq rfl) (hb hby at_7) (fun _ _ => ⟨rfl, e1, (by decide : 0 + 2 ≤ _), (by decide : 0 + 4 ≤ _)⟩)
  dsimp only [Pt.U, Pt.locs, Pt.cells, Pt.slots] at X2 l2 y2 z2 st2 hQ2
  subst l2 y2 z2
  obtain ⟨b50, b51, rfl, Nq2, K2, le_b50, le_b51, o2_0, o2_1, o2_2, o2_3, o2_4, o2_5, o2_6⟩ := hQ2
  have N2 := Fr.app N1 Nq2
  have sz_b50 : h0.size ≤ b50 := Nat.le_trans (Nat.le_refl _) le_b50
  have g_b50 : n0 ≤ b50 := Nat.le_trans Z0 sz_b50
  have sz_b51 : h0.size ≤ b51 := Nat.le_trans (Nat.le_refl _) le_b51
  have g_b51 : n0 ≤ b51 := Nat.le_trans Z0 sz_b51
  have KK2 : Keep h0 T2.heap [] := (Keep.refl h0 []).trans K2 (fun x hx => nomatch hx)
  -- pc 18: com/example/corestone/corestone/BulkRequest$Line.number
  obtain ⟨cq3, kq3, q3a, q3b, q3c⟩ := isOf hZ rfl o2_0
  obtain ⟨_, _, ⟨T3, L3, k3, n3⟩, -, X3, ⟨Lc3, hQ3, l3, y3, z3⟩, st3⟩ := X2.virtualBack hx (y := M_8) (z := M_8) hown (mvT hZ (tw_51 hw)) (mvT hZ (tw_52 hw)) (notFace_of_selects (args := #[]) (mvT hZ (tw_54 hw))) (mvT hZ (tw_54 hw)) (mvT hZ (tw_53 hw)) (by decide) (backOf (W := 0) (rm10_32 l Z a0 hw [] b50 p0 T2.heap n0 (Nat.le_trans Z0 KK2.1) o2_1) hZ (tw_55 hw) (tw_9 hw) (by decide) (by decide)) q3a q3c (g := (mkF m 18 #[.val (.int p0), .val (.int p1), .val (.ref a_INVALID_IDENTIFIER), .val (.ref b50)] [(.ref b50)])) rfl (by rw [hml]; rfl) (Steps.refl _) (argsL := []) (rest := []) (lenOf pd_8 rfl) rfl (by show 2 * 0 + _ ≤ _; exact Nat.le_of_eq rfl) (hb hby at_18) (fun _ _ => ⟨rfl, rfl, (by decide : 2 + 0 ≤ _), (by decide : 4 + 0 ≤ _)⟩)
  dsimp only [Pt.U, Pt.locs, Pt.cells, Pt.slots] at X3 l3 y3 z3 st3 hQ3
  subst l3 y3 z3
  obtain ⟨rfl, Nq3, e3⟩ := hQ3
  have N3 := Fr.app N2 Nq3
  -- pc 28: com/example/corestone/corestone/BulkRequest$Line.handle
  obtain ⟨cq4, kq4, q4a, q4b, q4c⟩ := isOf hZ e3 o2_0
  obtain ⟨_, _, ⟨T4, L4, k4, n4⟩, -, X4, ⟨Lc4, hQ4, l4, y4, z4⟩, st4⟩ := X3.virtualBack hx (y := M_9) (z := M_9) hown (mvT hZ (tw_56 hw)) (mvT hZ (tw_57 hw)) (notFace_of_selects (args := #[]) (mvT hZ (tw_59 hw))) (mvT hZ (tw_59 hw)) (mvT hZ (tw_58 hw)) (by decide) (backOf (W := 0) (rm11_33 l Z a0 hw [] b50 a_EMPTY T2.heap n0 (Nat.le_trans Z0 KK2.1) o2_2) hZ (tw_60 hw) (tw_9 hw) (by decide) (by decide)) q4a q4c (g := (mkF m 28 #[.val (.int p0), .val (.int p1), .val (.ref a_INVALID_IDENTIFIER), .val (.ref b50)] [(.ref b50)])) rfl (by rw [hml]; rfl) (Steps.refl _) (argsL := []) (rest := []) (lenOf pd_1 rfl) rfl (by show 2 * 0 + _ ≤ _; exact Nat.le_of_eq rfl) (hb hby at_28) (fun _ _ => ⟨rfl, e3, (by decide : 2 + 0 ≤ _), (by decide : 4 + 0 ≤ _)⟩)
  dsimp only [Pt.U, Pt.locs, Pt.cells, Pt.slots] at X4 l4 y4 z4 st4 hQ4
  subst l4 y4 z4
  obtain ⟨rfl, Nq4, e4⟩ := hQ4
  have N4 := Fr.app N3 Nq4
  -- pc 35: com/example/corestone/corestone/BulkRequest$Line.handle
  obtain ⟨cq5, kq5, q5a, q5b, q5c⟩ := isOf hZ e4 o2_0
  obtain ⟨_, _, ⟨T5, L5, k5, n5⟩, -, X5, ⟨Lc5, hQ5, l5, y5, z5⟩, st5⟩ := X4.virtualBack hx (y := M_9) (z := M_9) hown (mvT hZ (tw_56 hw)) (mvT hZ (tw_57 hw)) (notFace_of_selects (args := #[]) (mvT hZ (tw_59 hw))) (mvT hZ (tw_59 hw)) (mvT hZ (tw_58 hw)) (by decide) (backOf (W := 0) (rm11_33 l Z a0 hw [] b50 a_EMPTY T2.heap n0 (Nat.le_trans Z0 KK2.1) o2_2) hZ (tw_60 hw) (tw_9 hw) (by decide) (by decide)) q5a q5c (g := (mkF m 35 #[.val (.int p0), .val (.int p1), .val (.ref a_INVALID_IDENTIFIER), .val (.ref b50)] [(.ref b50)])) rfl (by rw [hml]; rfl) (Steps.refl _) (argsL := []) (rest := []) (lenOf pd_1 rfl) rfl (by show 2 * 0 + _ ≤ _; exact Nat.le_of_eq rfl) (hb hby at_35) (fun _ _ => ⟨rfl, e4, (by decide : 2 + 0 ≤ _), (by decide : 4 + 0 ≤ _)⟩)
  dsimp only [Pt.U, Pt.locs, Pt.cells, Pt.slots] at X5 l5 y5 z5 st5 hQ5
  subst l5 y5 z5
  obtain ⟨rfl, Nq5, e5⟩ := hQ5
  have N5 := Fr.app N4 Nq5
  -- pc 38: java/util/Optional.isPresent
  have u6 : F_0 Z T2.heap a_EMPTY .null := Fld.keep f4 K2 List.not_mem_nil
  have u8 : E_1 Z T2.heap a_EMPTY := Exa.keep f5 K2
  obtain ⟨cq7, kq7, q7a, q7b, q7c⟩ := isOf hZ e5 u8
  obtain ⟨_, _, ⟨T7, L7, k7, n7⟩, -, X7, ⟨Lc7, hQ7, l7, y7, z7⟩, st7⟩ := X5.virtualBack hx (y := M_10) (z := M_10) hown (mvT hZ (tw_61 hw)) (mvT hZ (tw_62 hw)) (notFace_of_selects (args := #[]) (mvT hZ (tw_64 hw))) (mvT hZ (tw_64 hw)) (mvT hZ (tw_63 hw)) (by decide) (backOf (W := 0) (rm12_34 l Z a0 hw [] a_EMPTY T2.heap n0 (Nat.le_trans Z0 KK2.1) u6) hZ (tw_65 hw) (tw_15 hw) (by decide) (by decide)) q7a q7c (g := (mkF m 38 #[.val (.int p0), .val (.int p1), .val (.ref a_INVALID_IDENTIFIER), .val (.ref b50)] [(.ref a_EMPTY)])) rfl (by rw [hml]; rfl) (Steps.refl _) (argsL := []) (rest := []) (lenOf pd_9 rfl) rfl (by show 2 * 0 + _ ≤ _; exact Nat.le_of_eq rfl) (hb hby at_38) (fun _ _ => ⟨rfl, e5, (by decide : 2 + 0 ≤ _), (by decide : 4 + 0 ≤ _)⟩)
  dsimp only [Pt.U, Pt.locs, Pt.cells, Pt.slots] at X7 l7 y7 z7 st7 hQ7
  subst l7 y7 z7
  obtain ⟨rfl, Nq7, e7⟩ := hQ7
  have N7 := Fr.app N5 Nq7
  -- pc 47: com/example/corestone/corestone/BulkRequest$Line.refusal
  obtain ⟨cq9, kq9, q9a, q9b, q9c⟩ := isOf hZ e7 o2_0
  obtain ⟨_, _, ⟨T9, L9, k9, n9⟩, -, X9, ⟨Lc9, hQ9, l9, y9, z9⟩, st9⟩ := X7.virtualBack hx (y := M_11) (z := M_11) hown (mvT hZ (tw_66 hw)) (mvT hZ (tw_67 hw)) (notFace_of_selects (args := #[]) (mvT hZ (tw_69 hw))) (mvT hZ (tw_69 hw)) (mvT hZ (tw_68 hw)) (by decide) (backOf (W := 0) (rm13_35 l Z a0 hw [] b50 b51 T2.heap n0 (Nat.le_trans Z0 KK2.1) o2_3) hZ (tw_70 hw) (tw_9 hw) (by decide) (by decide)) q9a q9c (g := (mkF m 47 #[.val (.int p0), .val (.int p1), .val (.ref a_INVALID_IDENTIFIER), .val (.ref b50)] [(.ref b50)])) rfl (by rw [hml]; rfl) (Steps.refl _) (argsL := []) (rest := []) (lenOf pd_1 rfl) rfl (by show 2 * 0 + _ ≤ _; exact Nat.le_of_eq rfl) (hb hby at_47) (fun _ _ => ⟨rfl, e7, (by decide : 2 + 0 ≤ _), (by decide : 4 + 0 ≤ _)⟩)
  dsimp only [Pt.U, Pt.locs, Pt.cells, Pt.slots] at X9 l9 y9 z9 st9 hQ9
  subst l9 y9 z9
  obtain ⟨rfl, Nq9, e9⟩ := hQ9
  have N9 := Fr.app N7 Nq9
  -- pc 54: com/example/corestone/corestone/BulkRequest$Line.refusal
  obtain ⟨cq10, kq10, q10a, q10b, q10c⟩ := isOf hZ e9 o2_0
  obtain ⟨_, _, ⟨T10, L10, k10, n10⟩, -, X10, ⟨Lc10, hQ10, l10, y10, z10⟩, st10⟩ := X9.virtualBack hx (y := M_11) (z := M_11) hown (mvT hZ (tw_66 hw)) (mvT hZ (tw_67 hw)) (notFace_of_selects (args := #[]) (mvT hZ (tw_69 hw))) (mvT hZ (tw_69 hw)) (mvT hZ (tw_68 hw)) (by decide) (backOf (W := 0) (rm13_35 l Z a0 hw [] b50 b51 T2.heap n0 (Nat.le_trans Z0 KK2.1) o2_3) hZ (tw_70 hw) (tw_9 hw) (by decide) (by decide)) q10a q10c (g := (mkF m 54 #[.val (.int p0), .val (.int p1), .val (.ref a_INVALID_IDENTIFIER), .val (.ref b50)] [(.ref b50)])) rfl (by rw [hml]; rfl) (Steps.refl _) (argsL := []) (rest := []) (lenOf pd_1 rfl) rfl (by show 2 * 0 + _ ≤ _; exact Nat.le_of_eq rfl) (hb hby at_54) (fun _ _ => ⟨rfl, e9, (by decide : 2 + 0 ≤ _), (by decide : 4 + 0 ≤ _)⟩)
  dsimp only [Pt.U, Pt.locs, Pt.cells, Pt.slots] at X10 l10 y10 z10 st10 hQ10
  subst l10 y10 z10
  obtain ⟨rfl, Nq10, e10⟩ := hQ10
  have N10 := Fr.app N9 Nq10
  -- pc 57: java/util/Optional.isPresent
  obtain ⟨cq11, kq11, q11a, q11b, q11c⟩ := isOf hZ e10 o2_4
  obtain ⟨_, _, ⟨T11, L11, k11, n11⟩, -, X11, ⟨Lc11, hQ11, l11, y11, z11⟩, st11⟩ := X10.virtualBack hx (y := M_10) (z := M_10) hown (mvT hZ (tw_61 hw)) (mvT hZ (tw_62 hw)) (notFace_of_selects (args := #[]) (mvT hZ (tw_64 hw))) (mvT hZ (tw_64 hw)) (mvT hZ (tw_63 hw)) (by decide) (backOf (W := 0) (rm12_52 l Z a0 hw [] b51 a_INVALID_IDENTIFIER T2.heap n0 (Nat.le_trans Z0 KK2.1) o2_5) hZ (tw_65 hw) (tw_15 hw) (by decide) (by decide)) q11a q11c (g := (mkF m 57 #[.val (.int p0), .val (.int p1), .val (.ref a_INVALID_IDENTIFIER), .val (.ref b50)] [(.ref b51)])) rfl (by rw [hml]; rfl) (Steps.refl _) (argsL := []) (rest := []) (lenOf pd_9 rfl) rfl (by show 2 * 0 + _ ≤ _; exact Nat.le_of_eq rfl) (hb hby at_57) (fun _ _ => ⟨rfl, e10, (by decide : 2 + 0 ≤ _), (by decide : 4 + 0 ≤ _)⟩)
  dsimp only [Pt.U, Pt.locs, Pt.cells, Pt.slots] at X11 l11 y11 z11 st11 hQ11
  subst l11 y11 z11
  obtain ⟨rfl, Nq11, e11⟩ := hQ11
  have N11 := Fr.app N10 Nq11
  -- pc 66: com/example/corestone/corestone/BulkRequest$Line.refusal
  obtain ⟨cq12, kq12, q12a, q12b, q12c⟩ := isOf hZ e11 o2_0
  obtain ⟨_, _, ⟨T12, L12, k12, n12⟩, -, X12, ⟨Lc12, hQ12, l12, y12, z12⟩, st12⟩ := X11.virtualBack hx (y := M_11) (z := M_11) hown (mvT hZ (tw_66 hw)) (mvT hZ (tw_67 hw)) (notFace_of_selects (args := #[]) (mvT hZ (tw_69 hw))) (mvT hZ (tw_69 hw)) (mvT hZ (tw_68 hw)) (by decide) (backOf (W := 0) (rm13_35 l Z a0 hw [] b50 b51 T2.heap n0 (Nat.le_trans Z0 KK2.1) o2_3) hZ (tw_70 hw) (tw_9 hw) (by decide) (by decide)) q12a q12c (g := (mkF m 66 #[.val (.int p0), .val (.int p1), .val (.ref a_INVALID_IDENTIFIER), .val (.ref b50)] [(.ref b50)])) rfl (by rw [hml]; rfl) (Steps.refl _) (argsL := []) (rest := []) (lenOf pd_1 rfl) rfl (by show 2 * 0 + _ ≤ _; exact Nat.le_of_eq rfl) (hb hby at_66) (fun _ _ => ⟨rfl, e11, (by decide : 2 + 0 ≤ _), (by decide : 4 + 0 ≤ _)⟩)
  dsimp only [Pt.U, Pt.locs, Pt.cells, Pt.slots] at X12 l12 y12 z12 st12 hQ12
  subst l12 y12 z12
  obtain ⟨rfl, Nq12, e12⟩ := hQ12
  have N12 := Fr.app N11 Nq12
  -- pc 69: java/util/Optional.get
  obtain ⟨cq13, kq13, q13a, q13b, q13c⟩ := isOf hZ e12 o2_4
  obtain ⟨_, _, ⟨T13, L13, k13, n13⟩, -, X13, ⟨Lc13, hQ13, l13, y13, z13⟩, st13⟩ := X12.virtualBack hx (y := M_12) (z := M_12) hown (mvT hZ (tw_71 hw)) (mvT hZ (tw_72 hw)) (notFace_of_selects (args := #[]) (mvT hZ (tw_74 hw))) (mvT hZ (tw_74 hw)) (mvT hZ (tw_73 hw)) (by decide) (backOf (W := 0) (rm14_53 l Z a0 hw [] b51 a_INVALID_IDENTIFIER T2.heap n0 (Nat.le_trans Z0 KK2.1) o2_5) hZ (tw_75 hw) (tw_15 hw) (by decide) (by decide)) q13a q13c (g := (mkF m 69 #[.val (.int p0), .val (.int p1), .val (.ref a_INVALID_IDENTIFIER), .val (.ref b50)] [(.ref b51)])) rfl (by rw [hml]; rfl) (Steps.refl _) (argsL := []) (rest := []) (lenOf pd_10 rfl) rfl (by show 2 * 0 + _ ≤ _; exact Nat.le_of_eq rfl) (hb hby at_69) (fun _ _ => ⟨rfl, e12, (by decide : 2 + 0 ≤ _), (by decide : 4 + 0 ≤ _)⟩)
  dsimp only [Pt.U, Pt.locs, Pt.cells, Pt.slots] at X13 l13 y13 z13 st13 hQ13
  subst l13 y13 z13
  obtain ⟨rfl, Nq13, e13⟩ := hQ13
  have N13 := Fr.app N12 Nq13
  obtain ⟨fs, hr, hrun, hended, hW, hsame⟩ := X13.leave (v := (some (.int 1))) (fun h => by rw [Bd.returns] at h; cases h)
  refine ⟨_, _, castTop (ef0_II m p0 p1) ?_, hrun, hended, _, _, rfl, ?_, ⟨_, rfl⟩, hW, hsame.mono (by decide) (by decide)⟩
  · show Steps p.tables e below (s₁.setTop (mkF m 0 #[.val (.int p0), .val (.int p1), .unset, .unset] [])) _
    refine XS.iloadN X0.here hx rfl (hb hby at_0) rfl ?_
    show Steps p.tables e below (s₁.setTop (mkF m 1 #[.val (.int p0), .val (.int p1), .unset, .unset] [(.int p1)])) _
    refine st1 _ ?_
    refine XS.astoreN X1.here hx rfl (hb hby at_4) rfl rfl (l' := #[.val (.int p0), .val (.int p1), .val (.ref a_INVALID_IDENTIFIER), .unset]) rfl ?_
    refine XS.iloadN X1.here hx rfl (hb hby at_5) rfl ?_
    refine XS.aloadN X1.here hx rfl (hb hby at_6) rfl rfl ?_
    show Steps p.tables e below (T1.setTop (mkF m 7 #[.val (.int p0), .val (.int p1), .val (.ref a_INVALID_IDENTIFIER), .unset] [(.ref a_INVALID_IDENTIFIER), (.int p0)])) _
    refine st2 _ ?_
    refine XS.astoreN X2.here hx rfl (hb hby at_10) rfl rfl (l' := #[.val (.int p0), .val (.int p1), .val (.ref a_INVALID_IDENTIFIER), .val (.ref b50)]) rfl ?_
    refine XS.aloadN X2.here hx rfl (hb hby at_11) rfl rfl ?_
    refine XS.ifnonnullYes X2.here hx rfl (pc0 := 12) (pc' := 17) rfl (hb hby at_12) rfl (by decide) (by decide) ?_
    refine XS.aloadN X2.here hx rfl (hb hby at_17) rfl rfl ?_
    show Steps p.tables e below (T2.setTop (mkF m 18 #[.val (.int p0), .val (.int p1), .val (.ref a_INVALID_IDENTIFIER), .val (.ref b50)] [(.ref b50)])) _
    refine st3.trans ?_
    refine XS.iloadN X3.here hx rfl (hb hby at_21) rfl ?_
    refine XS.icmpYes X3.here hx rfl (pc0 := 22) (pc' := 27) rfl (hb hby at_22) rfl (teq (rfl : p0 = p0)).1 (by decide) (by decide) ?_
    refine XS.aloadN X3.here hx rfl (hb hby at_27) rfl rfl ?_
    show Steps p.tables e below (T3.setTop (mkF m 28 #[.val (.int p0), .val (.int p1), .val (.ref a_INVALID_IDENTIFIER), .val (.ref b50)] [(.ref b50)])) _
    refine st4.trans ?_
    refine XS.ifnullNo X4.here hx rfl (hb hby at_31) rfl ?_
    refine XS.aloadN X4.here hx rfl (hb hby at_34) rfl rfl ?_
    show Steps p.tables e below (T4.setTop (mkF m 35 #[.val (.int p0), .val (.int p1), .val (.ref a_INVALID_IDENTIFIER), .val (.ref b50)] [(.ref b50)])) _
    refine st5.trans ?_
    show Steps p.tables e below (T5.setTop (mkF m 38 #[.val (.int p0), .val (.int p1), .val (.ref a_INVALID_IDENTIFIER), .val (.ref b50)] [(.ref a_EMPTY)])) _
    refine st7.trans ?_
    refine XS.ifYes X7.here hx rfl (pc0 := 41) (pc' := 46) rfl (hb hby at_41) rfl (by decide) (by decide) (by decide) ?_
    refine XS.aloadN X7.here hx rfl (hb hby at_46) rfl rfl ?_
    show Steps p.tables e below (T7.setTop (mkF m 47 #[.val (.int p0), .val (.int p1), .val (.ref a_INVALID_IDENTIFIER), .val (.ref b50)] [(.ref b50)])) _
    refine st9.trans ?_
    refine XS.ifnullNo X9.here hx rfl (hb hby at_50) rfl ?_
    refine XS.aloadN X9.here hx rfl (hb hby at_53) rfl rfl ?_
    show Steps p.tables e below (T9.setTop (mkF m 54 #[.val (.int p0), .val (.int p1), .val (.ref a_INVALID_IDENTIFIER), .val (.ref b50)] [(.ref b50)])) _
    refine st10.trans ?_
    show Steps p.tables e below (T10.setTop (mkF m 57 #[.val (.int p0), .val (.int p1), .val (.ref a_INVALID_IDENTIFIER), .val (.ref b50)] [(.ref b51)])) _
    refine st11.trans ?_
    refine XS.ifYes X11.here hx rfl (pc0 := 60) (pc' := 65) rfl (hb hby at_60) rfl (by decide) (by decide) (by decide) ?_
    refine XS.aloadN X11.here hx rfl (hb hby at_65) rfl rfl ?_
    show Steps p.tables e below (T11.setTop (mkF m 66 #[.val (.int p0), .val (.int p1), .val (.ref a_INVALID_IDENTIFIER), .val (.ref b50)] [(.ref b50)])) _
    refine st12.trans ?_
    show Steps p.tables e below (T12.setTop (mkF m 69 #[.val (.int p0), .val (.int p1), .val (.ref a_INVALID_IDENTIFIER), .val (.ref b50)] [(.ref b51)])) _
    refine st13.trans ?_
    refine XS.aloadN X13.here hx rfl (hb hby at_72) rfl rfl ?_
    show Steps p.tables e below (T13.setTop (mkF m 73 #[.val (.int p0), .val (.int p1), .val (.ref a_INVALID_IDENTIFIER), .val (.ref b50)] [(.ref a_INVALID_IDENTIFIER), (.ref a_INVALID_IDENTIFIER)])) _
    refine Jvm.RoadKit.acmp (g := (mkF m 73 #[.val (.int p0), .val (.int p1), .val (.ref a_INVALID_IDENTIFIER), .val (.ref b50)] [(.ref a_INVALID_IDENTIFIER), (.ref a_INVALID_IDENTIFIER)])) X13 hx rfl rfl rfl (pc0 := 73) (pc' := 76) (same := true) rfl (hb hby at_73) rfl (decide_eq_true rfl) (by decide) (by decide) ?_
    refine XS.iconst X13.here hx rfl (hb hby at_76) ?_
    refine XS.goto X13.here hx rfl (pc0 := 77) (pc' := 81) rfl (hb hby at_77) (by decide) (by decide) ?_
    show Steps p.tables e below (T13.setTop (mkF m 81 #[.val (.int p0), .val (.int p1), .val (.ref a_INVALID_IDENTIFIER), .val (.ref b50)] [(.int 1)])) _
    exact retN X13 hx (t := .boolean) Bd.returns (by simp) (hb hby at_81) hr
  · show QT n0 _ T13.heap _
    rw [e13]
    exact ⟨rfl, N13⟩
theorem d1_22 : decode method_2_code 22 = .ok (.iload_n 1, 1) := by decide +kernel
theorem d1_23 : decode method_2_code 23 = .ok (.iconst 2, 1) := by decide +kernel
theorem d1_24 : decode method_2_code 24 = .ok (.if_icmp .ne 7, 3) := by decide +kernel
theorem d1_27 : decode method_2_code 27 = .ok (.getstatic 16, 3) := by decide +kernel
theorem tw_88 {a0 : Array Value} {Z : State} (hw : ∀ d ∈ tables_1, d.before a0 Z = true) : (Jvm.Cond.fieldLink "com/example/corestone/corestone/LineRefusedPinLaw" (16 : Nat) "com/example/corestone/corestone/RefusedException$Refusal" "IDENTIFIER_MISMATCH" "Lcom/example/corestone/corestone/RefusedException$Refusal;").before a0 Z = true := hw _ (List.mem_of_getElem? (i := 88) rfl)
theorem d1_30 : decode method_2_code 30 = .ok (.areturn, 1) := by decide +kernel
set_option maxRecDepth 65536 in
set_option maxHeartbeats 40000000 in
theorem rm1_55 (l : Launch) (Z : State) (a0 : Array Value) (hw : ∀ d ∈ tables_1, d.before a0 Z = true) (ws : List Jvm.Cond) (p1 : Int32) (a_IDENTIFIER_MISMATCH : Addr) (h0 : Heap) (n0 : Nat) (Z0 : n0 ≤ h0.size) (f1 : (p1 &&& (7 : Int32)) = (2 : Int32)) (f2 : S_7 Z h0 (.ref a_IDENTIFIER_MISMATCH)) :
    MetFree l M_0 (head1 (Jvm.Cond.code M_0 method_2_code 2 (some (.object "com/example/corestone/corestone/RefusedException$Refusal")) :: ws) R_0_0_0_0) (fun a U => a = #[(.int p1)] ∧ Z.Warmed39 U.vm ∧ U.heap = h0) (fun _ _ _ _ _ => True) (fun _ U o U' => ∃ v L, o = .returned v ∧ QP (some (.ref a_IDENTIFIER_MISMATCH)) h0 n0 v U'.heap L ∧ FrameEnd U o U' L R_0_0_0_0.cells R_0_0_0_0.slots) := by
  refine MetFree.of_bodySF (plainFor_of_name pn_com_example_corestone_corestone_LineRefusedPinLaw) hisR ?_
  intro p e s m args below meth c s₁ Bd hml0 hP hK
  obtain ⟨rfl, hZ, hh⟩ := hP
  have hx := Bd.exec
  have hby := Bd.bytes
  have hml : c.maxLocals = 2 := hml0
  have hown : s.vm.findClass "com/example/corestone/corestone/LineRefusedPinLaw" = some m.cls := findClass_of_methodNamed Bd.named
  have hnm := (name_of_methodNamed Bd.named Bd.method).1
  have X0 : Stand p l e R_0_0_0_0 s m #[(.int p1)] below meth c s₁ [] 0 0 := Stand.of_body Bd
  have e0 : s₁.heap = h0 := by rw [← hh, Bd.state]; rfl
  have N0 := Fr.nil n0
  obtain ⟨T1, X1, e1, st1⟩ := getS2 X0 hx hZ hown (host := "") (Or.inl (tw_88 hw)) Via.refl e0 f2 (g := (mkF m 27 #[.val (.int p1), .val (.int 2)] [])) rfl (hb hby d1_27)
  obtain ⟨fs, hr, hrun, hended, hW, hsame⟩ := X1.leave (v := (some (.ref a_IDENTIFIER_MISMATCH))) (fun h => by rw [Bd.returns] at h; cases h)
  refine ⟨_, _, castTop (ef1_I m p1) ?_, hrun, hended, _, _, rfl, ?_, ⟨_, rfl⟩, hW, hsame.mono (by decide) (by decide)⟩
  · show Steps p.tables e below (s₁.setTop (mkF m 0 #[.val (.int p1), .unset] [])) _
    refine XS.iloadN X0.here hx rfl (hb hby d1_0) rfl ?_
    refine XS.bipush X0.here hx rfl (hb hby d1_1) ?_
    show Steps p.tables e below (s₁.setTop (mkF m 3 #[.val (.int p1), .unset] [(.int 7), (.int p1)])) _
    refine XS.iand X0.here hx rfl (hb hby d1_3) rfl ?_
    show Steps p.tables e below (s₁.setTop (mkF m 4 #[.val (.int p1), .unset] [(.int (p1 &&& (7 : Int32)))])) _
    rw [f1]
    refine XS.istoreN X0.here hx rfl (hb hby d1_4) rfl (l' := #[.val (.int p1), .val (.int 2)]) rfl ?_
    refine XS.iloadN X0.here hx rfl (hb hby d1_5) rfl ?_
    refine XS.ifYes X0.here hx rfl (pc0 := 6) (pc' := 13) rfl (hb hby d1_6) rfl (by decide) (by decide) (by decide) ?_
    refine XS.iloadN X0.here hx rfl (hb hby d1_13) rfl ?_
    show Steps p.tables e below (s₁.setTop (mkF m 14 #[.val (.int p1), .val (.int 2)] [(.int 2)])) _
    refine XS.iconst X0.here hx rfl (hb hby d1_14) ?_
    refine XS.icmpYes X0.here hx rfl (pc0 := 15) (pc' := 22) rfl (hb hby d1_15) rfl (by decide) (by decide) (by decide) ?_
    refine XS.iloadN X0.here hx rfl (hb hby d1_22) rfl ?_
    refine XS.iconst X0.here hx rfl (hb hby d1_23) ?_
    refine XS.icmpNo X0.here hx rfl (hb hby d1_24) rfl (by decide) ?_
    show Steps p.tables e below (s₁.setTop (mkF m 27 #[.val (.int p1), .val (.int 2)] [])) _
    refine st1 _ ?_
    show Steps p.tables e below (T1.setTop (mkF m 30 #[.val (.int p1), .val (.int 2)] [(.ref a_IDENTIFIER_MISMATCH)])) _
    jvm_step X1.here [X1.here.top, hx, (hb hby d1_30), X1.method', Bd.returns, Value.isRef, FieldType.isReference]
    first | (intro acts; rw [hr _ acts rfl rfl rfl]) | rw [hr _ _ rfl rfl rfl]
    exact Steps.refl _
  · show QP (some (.ref a_IDENTIFIER_MISMATCH)) h0 n0 _ T1.heap _
    rw [e1]
    exact ⟨rfl, N0, rfl⟩
set_option maxRecDepth 65536 in
set_option maxHeartbeats 40000000 in
theorem rm5_58 (l : Launch) (Z : State) (a0 : Array Value) (hw : ∀ d ∈ tables_1, d.before a0 Z = true) (ws : List Jvm.Cond) (a_IDENTIFIER_MISMATCH : Addr) (h0 : Heap) (n0 : Nat) (Z0 : n0 ≤ h0.size) :
    MetFree l M_2 (head1 (Jvm.Cond.code M_2 jdk_31_method_10_code 1 (some (.object "java/lang/Object")) :: ws) R_0_0_0_0) (fun a U => a = #[(.ref a_IDENTIFIER_MISMATCH)] ∧ Z.Warmed39 U.vm ∧ U.heap = h0) (fun _ _ _ _ _ => True) (fun _ U o U' => ∃ v L, o = .returned v ∧ QP (some (.ref a_IDENTIFIER_MISMATCH)) h0 n0 v U'.heap L ∧ FrameEnd U o U' L R_0_0_0_0.cells R_0_0_0_0.slots) := by
  refine MetFree.of_bodySF (plainFor_of_name pn_java_util_Objects) hisR ?_
  intro p e s m args below meth c s₁ Bd hml0 hP hK
  obtain ⟨rfl, hZ, hh⟩ := hP
  have hx := Bd.exec
  have hby := Bd.bytes
  have hml : c.maxLocals = 1 := hml0
  have hown : s.vm.findClass "java/util/Objects" = some m.cls := findClass_of_methodNamed Bd.named
  have hnm := (name_of_methodNamed Bd.named Bd.method).1
  have X0 : Stand p l e R_0_0_0_0 s m #[(.ref a_IDENTIFIER_MISMATCH)] below meth c s₁ [] 0 0 := Stand.of_body Bd
  have e0 : s₁.heap = h0 := by rw [← hh, Bd.state]; rfl
  have N0 := Fr.nil n0
  obtain ⟨fs, hr, hrun, hended, hW, hsame⟩ := X0.leave (v := (some (.ref a_IDENTIFIER_MISMATCH))) (fun h => by rw [Bd.returns] at h; cases h)
  refine ⟨_, _, castTop (ef5_R m a_IDENTIFIER_MISMATCH) ?_, hrun, hended, _, _, rfl, ?_, ⟨_, rfl⟩, hW, hsame.mono (by decide) (by decide)⟩
  · show Steps p.tables e below (s₁.setTop (mkF m 0 #[.val (.ref a_IDENTIFIER_MISMATCH)] [])) _
    refine XS.aloadN X0.here hx rfl (hb hby d5_0) rfl rfl ?_
    refine XS.ifnonnullYes X0.here hx rfl (pc0 := 1) (pc' := 12) rfl (hb hby d5_1) rfl (by decide) (by decide) ?_
    refine XS.aloadN X0.here hx rfl (hb hby d5_12) rfl rfl ?_
    show Steps p.tables e below (s₁.setTop (mkF m 13 #[.val (.ref a_IDENTIFIER_MISMATCH)] [(.ref a_IDENTIFIER_MISMATCH)])) _
    jvm_step X0.here [X0.here.top, hx, (hb hby d5_13), X0.method', Bd.returns, Value.isRef, FieldType.isReference]
    first | (intro acts; rw [hr _ acts rfl rfl rfl]) | rw [hr _ _ rfl rfl rfl]
    exact Steps.refl _
  · show QP (some (.ref a_IDENTIFIER_MISMATCH)) h0 n0 _ s₁.heap _
    rw [e0]
    exact ⟨rfl, N0, rfl⟩
def Q6_60 (Z : State) (c0_a : Addr) (a_IDENTIFIER_MISMATCH : Addr) (h0 : Heap) (n0 : Nat) (v : Option Value) (h : Heap) (L : List Loc) : Prop := v = none ∧ Fr n0 L ∧ Keep h0 h [c0_a] ∧ F_0 Z h c0_a (.ref a_IDENTIFIER_MISMATCH)
set_option maxRecDepth 65536 in
set_option maxHeartbeats 40000000 in
theorem rm6_59 (l : Launch) (Z : State) (a0 : Array Value) (hw : ∀ d ∈ tables_1, d.before a0 Z = true) (ws : List Jvm.Cond) (c0_a : Addr) (a_IDENTIFIER_MISMATCH : Addr) (h0 : Heap) (n0 : Nat) (Z0 : n0 ≤ h0.size) (f1 : F_0 Z h0 c0_a .null) (f2 : E_1 Z h0 c0_a) (f3 : n0 ≤ c0_a) :
    MetFree l M_3 (head1 (Jvm.Cond.code M_3 jdk_32_method_2_code 2 none :: ws) R_1_0_0_12) (fun a U => a = #[(.ref c0_a), (.ref a_IDENTIFIER_MISMATCH)] ∧ Z.Warmed39 U.vm ∧ U.heap = h0) (fun _ _ _ _ _ => True) (fun _ U o U' => ∃ v L, o = .returned v ∧ Q6_60 Z c0_a a_IDENTIFIER_MISMATCH h0 n0 v U'.heap L ∧ FrameEnd U o U' L R_1_0_0_12.cells R_1_0_0_12.slots) := by
  refine MetFree.of_bodySF (plainFor_of_name pn_java_util_Optional) hisR ?_
  intro p e s m args below meth c s₁ Bd hml0 hP hK
  obtain ⟨rfl, hZ, hh⟩ := hP
  have hx := Bd.exec
  have hby := Bd.bytes
  have hml : c.maxLocals = 2 := hml0
  have hown : s.vm.findClass "java/util/Optional" = some m.cls := findClass_of_methodNamed Bd.named
  have hnm := (name_of_methodNamed Bd.named Bd.method).1
  have X0 : Stand p l e R_1_0_0_12 s m #[(.ref c0_a), (.ref a_IDENTIFIER_MISMATCH)] below meth c s₁ [] 0 0 := Stand.of_body Bd
  have e0 : s₁.heap = h0 := by rw [← hh, Bd.state]; rfl
  have N0 := Fr.nil n0
  obtain ⟨T1, X1, e1, st1⟩ := initO X0 hx hZ hown (tw_31 hw) (tw_32 hw) (tw_33 hw) e0 (g := (mkF m 1 #[.val (.ref c0_a), .val (.ref a_IDENTIFIER_MISMATCH)] [(.ref c0_a)])) rfl (by rw [hml]; rfl) rfl (hb hby d6_1) (by decide) (W := 0) (by show 2 * 0 + _ ≤ _; exact Nat.le_of_eq rfl) (by decide)
  obtain ⟨T2, h2, X2, e2, W2, st2⟩ := putF X1 hx hZ hown (host := "") (Or.inl (tw_34 hw)) Via.refl e1 f1 f2 (Or.inr ⟨(tw_35 hw), rfl, hnm⟩) (tw_22 hw) (ty := (.object "java/lang/Object")) (by decide) rfl rfl (g := (mkF m 6 #[.val (.ref c0_a), .val (.ref a_IDENTIFIER_MISMATCH)] [(.ref a_IDENTIFIER_MISMATCH), (.ref c0_a)])) rfl rfl (hb hby d6_6)
  have Fw2 : F_0 Z h2 c0_a (.ref a_IDENTIFIER_MISMATCH) := Fld.same W2 f1
  have KK2 : Keep h0 h2 [c0_a] := (Keep.refl h0 [c0_a]).wr W2 (Or.inl (List.mem_of_getElem? (i := 0) rfl))
  have N2 := Fr.snoc X2 N0 f3
  obtain ⟨fs, hr, hrun, hended, hW, hsame⟩ := X2.leave (v := none) (fun _ => rfl)
  refine ⟨_, _, castTop (ef6_RR m c0_a a_IDENTIFIER_MISMATCH) ?_, hrun, hended, _, _, rfl, ?_, ⟨_, rfl⟩, hW, hsame.mono (by decide) (by decide)⟩
  · show Steps p.tables e below (s₁.setTop (mkF m 0 #[.val (.ref c0_a), .val (.ref a_IDENTIFIER_MISMATCH)] [])) _
    refine XS.aloadN X0.here hx rfl (hb hby d6_0) rfl rfl ?_
    show Steps p.tables e below (s₁.setTop (mkF m 1 #[.val (.ref c0_a), .val (.ref a_IDENTIFIER_MISMATCH)] [(.ref c0_a)])) _
    refine st1 _ ?_
    refine XS.aloadN X1.here hx rfl (hb hby d6_4) rfl rfl ?_
    refine XS.aloadN X1.here hx rfl (hb hby d6_5) rfl rfl ?_
    show Steps p.tables e below (T1.setTop (mkF m 6 #[.val (.ref c0_a), .val (.ref a_IDENTIFIER_MISMATCH)] [(.ref a_IDENTIFIER_MISMATCH), (.ref c0_a)])) _
    refine st2 _ ?_
    show Steps p.tables e below (T2.setTop (mkF m 9 #[.val (.ref c0_a), .val (.ref a_IDENTIFIER_MISMATCH)] [])) _
    exact X2.returnOut hx Bd.returns (hb hby d6_9) hr
  · show Q6_60 Z c0_a a_IDENTIFIER_MISMATCH h0 n0 _ T2.heap _
    rw [e2]
    exact ⟨rfl, N2, KK2, Fw2⟩
def Q4_62 (Z : State) (a_IDENTIFIER_MISMATCH : Addr) (h0 : Heap) (n0 : Nat) (v : Option Value) (h : Heap) (L : List Loc) : Prop := ∃ (b57 : Addr), v = (some (.ref b57)) ∧ Fr n0 L ∧ Keep h0 h [] ∧ h0.size ≤ b57 ∧ E_1 Z h b57 ∧ F_0 Z h b57 (.ref a_IDENTIFIER_MISMATCH)
set_option maxRecDepth 65536 in
set_option maxHeartbeats 40000000 in
theorem rm4_61 (l : Launch) (Z : State) (a0 : Array Value) (hw : ∀ d ∈ tables_1, d.before a0 Z = true) (ws : List Jvm.Cond) (a_IDENTIFIER_MISMATCH : Addr) (h0 : Heap) (n0 : Nat) (Z0 : n0 ≤ h0.size) :
    MetFree l M_4 (head1 (Jvm.Cond.code M_4 jdk_32_method_3_code 1 (some (.object "java/util/Optional")) :: ws) R_2_1_1_26) (fun a U => a = #[(.ref a_IDENTIFIER_MISMATCH)] ∧ Z.Warmed39 U.vm ∧ U.heap = h0) (fun _ _ _ _ _ => True) (fun _ U o U' => ∃ v L, o = .returned v ∧ Q4_62 Z a_IDENTIFIER_MISMATCH h0 n0 v U'.heap L ∧ FrameEnd U o U' L R_2_1_1_26.cells R_2_1_1_26.slots) := by
  refine MetFree.of_bodySF (plainFor_of_name pn_java_util_Optional) hisR ?_
  intro p e s m args below meth c s₁ Bd hml0 hP hK
  obtain ⟨rfl, hZ, hh⟩ := hP
  have hx := Bd.exec
  have hby := Bd.bytes
  have hml : c.maxLocals = 1 := hml0
  have hown : s.vm.findClass "java/util/Optional" = some m.cls := findClass_of_methodNamed Bd.named
  have hnm := (name_of_methodNamed Bd.named Bd.method).1
  have X0 : Stand p l e R_2_1_1_26 s m #[(.ref a_IDENTIFIER_MISMATCH)] below meth c s₁ [] 0 0 := Stand.of_body Bd
  have e0 : s₁.heap = h0 := by rw [← hh, Bd.state]; rfl
  have N0 := Fr.nil n0
  obtain ⟨T1, h1, X1, e1, E1, A1, D1, -, st1⟩ := newO X0 hx hZ hown (tw_21 hw) (tw_22 hw) (tw_15 hw) e0 (g := (mkF m 0 #[.val (.ref a_IDENTIFIER_MISMATCH)] [])) rfl (hb hby d4_0) (by decide) (by decide)
  obtain ⟨b57, g1⟩ : ∃ z, z = h0.size := ⟨_, rfl⟩
  rw [← g1] at A1 D1 st1
  have sz_b57 : h0.size ≤ b57 := Nat.le_trans (Nat.le_refl _) (Nat.le_of_eq g1.symm)
  have g_b57 : n0 ≤ b57 := Nat.le_trans Z0 sz_b57
  have KK1 : Keep h0 h1 [] := (Keep.refl h0 []).ext E1
  have F1_35 : F_0 Z h1 b57 .null := D1 (Or.inr (tw_35 hw)) (ty := (.object "java/lang/Object")) (by decide)
  -- pc 5: java/util/Objects.requireNonNull
  obtain ⟨_, _, ⟨T2, L2, k2, n2⟩, -, X2, ⟨Lc2, hQ2, l2, y2, z2⟩, st2⟩ := Jvm.LawKit.callS X1 hx (y := M_2) hown (mvT hZ (tw_23 hw)) (mvT hZ (tw_24 hw)) (mvT hZ (tw_25 hw)) (mvT hZ (tw_26 hw)) (by decide) (backOf (W := 2) (rm5_58 l Z a0 hw [] a_IDENTIFIER_MISMATCH h1 n0 (Nat.le_trans Z0 KK1.1) ) hZ (tw_26 hw) (tw_25 hw) (by decide) (by decide)) (g := (mkF m 5 #[.val (.ref a_IDENTIFIER_MISMATCH)] [(.ref a_IDENTIFIER_MISMATCH), (.ref b57), (.ref b57)])) rfl (by rw [hml]; rfl) (argsL := [(.ref a_IDENTIFIER_MISMATCH)]) (rest := [(.ref b57), (.ref b57)]) (lenOf pd_2 rfl) rfl (by show 2 * 0 + _ ≤ _; exact Nat.le_of_eq rfl) (hb hby d4_5) (fun _ _ => ⟨rfl, e1, (by decide : 1 + 0 ≤ _), (by decide : 1 + 0 ≤ _)⟩)
  dsimp only [Pt.U, Pt.locs, Pt.cells, Pt.slots] at X2 l2 y2 z2 st2 hQ2
  subst l2 y2 z2
  obtain ⟨rfl, Nq2, e2⟩ := hQ2
  have N2 := Fr.app N0 Nq2
  -- pc 8: java/util/Optional.<init>
  obtain ⟨_, _, ⟨T3, L3, k3, n3⟩, -, X3, ⟨Lc3, hQ3, l3, y3, z3⟩, st3⟩ := X2.specialBack hx (y := M_3) rfl hown (mvT hZ (tw_27 hw)) (mvT hZ (tw_28 hw)) (mvT hZ (tw_30 hw)) (by decide) (backOf (W := 1) (rm6_59 l Z a0 hw [] b57 a_IDENTIFIER_MISMATCH h1 n0 (Nat.le_trans Z0 KK1.1) F1_35 A1 g_b57) hZ (tw_30 hw) (tw_15 hw) (by decide) (by decide)) (g := (mkF m 8 #[.val (.ref a_IDENTIFIER_MISMATCH)] [(.ref a_IDENTIFIER_MISMATCH), (.ref b57), (.ref b57)])) rfl (by rw [hml]; rfl) (Steps.refl _) (a := b57) (argsL := [(.ref a_IDENTIFIER_MISMATCH)]) (rest := [(.ref b57)]) (lenOf pd_3 rfl) rfl (by show 2 * 0 + _ ≤ _; exact Nat.le_of_eq rfl) (hb hby d4_8) (fun _ _ => ⟨rfl, e2, (by decide : 1 + 0 ≤ _), (by decide : 1 + 0 ≤ _)⟩)
  dsimp only [Pt.U, Pt.locs, Pt.cells, Pt.slots] at X3 l3 y3 z3 st3 hQ3
  subst l3 y3 z3
  obtain ⟨rfl, Nq3, K3, o3_0⟩ := hQ3
  have N3 := Fr.app N2 Nq3
  have KK3 : Keep h0 T3.heap [] := KK1.trans K3 (fun x hx => (List.mem_cons.mp hx).elim (fun q => q ▸ (Or.inr sz_b57)) (fun hx => nomatch hx))
  have u4 : E_1 Z T3.heap b57 := Exa.keep A1 K3
  obtain ⟨fs, hr, hrun, hended, hW, hsame⟩ := X3.leave (v := (some (.ref b57))) (fun h => by rw [Bd.returns] at h; cases h)
  refine ⟨_, _, castTop (ef4_R m a_IDENTIFIER_MISMATCH) ?_, hrun, hended, _, _, rfl, ?_, ⟨_, rfl⟩, hW, hsame.mono (by decide) (by decide)⟩
  · show Steps p.tables e below (s₁.setTop (mkF m 0 #[.val (.ref a_IDENTIFIER_MISMATCH)] [])) _
    refine st1 _ ?_
    refine XS.dup X1.here hx rfl (hb hby d4_3) rfl rfl ?_
    refine XS.aloadN X1.here hx rfl (hb hby d4_4) rfl rfl ?_
    show Steps p.tables e below (T1.setTop (mkF m 5 #[.val (.ref a_IDENTIFIER_MISMATCH)] [(.ref a_IDENTIFIER_MISMATCH), (.ref b57), (.ref b57)])) _
    refine st2 _ ?_
    show Steps p.tables e below (T2.setTop (mkF m 8 #[.val (.ref a_IDENTIFIER_MISMATCH)] [(.ref a_IDENTIFIER_MISMATCH), (.ref b57), (.ref b57)])) _
    refine st3.trans ?_
    show Steps p.tables e below (T3.setTop (mkF m 11 #[.val (.ref a_IDENTIFIER_MISMATCH)] [(.ref b57)])) _
    jvm_step X3.here [X3.here.top, hx, (hb hby d4_11), X3.method', Bd.returns, Value.isRef, FieldType.isReference]
    first | (intro acts; rw [hr _ acts rfl rfl rfl]) | rw [hr _ _ rfl rfl rfl]
    exact Steps.refl _
  · show Q4_62 Z a_IDENTIFIER_MISMATCH h0 n0 _ T3.heap _
    exact ⟨b57, rfl, N3, KK3, sz_b57, u4, o3_0⟩
def Q2_65 (Z : State) (p0 : Int32) (a_EMPTY : Addr) (a_IDENTIFIER_MISMATCH : Addr) (h0 : Heap) (n0 : Nat) (v : Option Value) (h : Heap) (L : List Loc) : Prop := ∃ (b56 : Addr) (b63 : Addr), v = (some (.ref b56)) ∧ Fr n0 L ∧ Keep h0 h [] ∧ h0.size ≤ b56 ∧ h0.size ≤ b63 ∧ E_2 Z h b56 ∧ F_1 Z h b56 (.int p0) ∧ F_2 Z h b56 (.ref a_EMPTY) ∧ F_3 Z h b56 (.ref b63) ∧ E_1 Z h b63 ∧ F_0 Z h b63 (.ref a_IDENTIFIER_MISMATCH) ∧ b56 ≠ b63
set_option maxRecDepth 65536 in
set_option maxHeartbeats 40000000 in
theorem rm2_64 (l : Launch) (Z : State) (a0 : Array Value) (hw : ∀ d ∈ tables_1, d.before a0 Z = true) (ws : List Jvm.Cond) (p0 : Int32) (a_IDENTIFIER_MISMATCH : Addr) (a_EMPTY : Addr) (h0 : Heap) (n0 : Nat) (Z0 : n0 ≤ h0.size) (f1 : S_8 Z h0 (.ref a_EMPTY)) :
    MetFree l M_7 (head1 (Jvm.Cond.code M_7 prog_3_method_3_code 2 (some (.object "com/example/corestone/corestone/BulkRequest$Line")) :: ws) R_3_2_4_42) (fun a U => a = #[(.int p0), (.ref a_IDENTIFIER_MISMATCH)] ∧ Z.Warmed39 U.vm ∧ U.heap = h0) (fun _ _ _ _ _ => True) (fun _ U o U' => ∃ v L, o = .returned v ∧ Q2_65 Z p0 a_EMPTY a_IDENTIFIER_MISMATCH h0 n0 v U'.heap L ∧ FrameEnd U o U' L R_3_2_4_42.cells R_3_2_4_42.slots) := by
  refine MetFree.of_bodySF (plainFor_of_name pn_com_example_corestone_corestone_BulkRequest_Line) hisR ?_
  intro p e s m args below meth c s₁ Bd hml0 hP hK
  obtain ⟨rfl, hZ, hh⟩ := hP
  have hx := Bd.exec
  have hby := Bd.bytes
  have hml : c.maxLocals = 2 := hml0
  have hown : s.vm.findClass "com/example/corestone/corestone/BulkRequest$Line" = some m.cls := findClass_of_methodNamed Bd.named
  have hnm := (name_of_methodNamed Bd.named Bd.method).1
  have X0 : Stand p l e R_3_2_4_42 s m #[(.int p0), (.ref a_IDENTIFIER_MISMATCH)] below meth c s₁ [] 0 0 := Stand.of_body Bd
  have e0 : s₁.heap = h0 := by rw [← hh, Bd.state]; rfl
  have N0 := Fr.nil n0
  obtain ⟨T1, h1, X1, e1, E1, A1, D1, -, st1⟩ := newO X0 hx hZ hown (tw_11 hw) (tw_12 hw) (tw_9 hw) e0 (g := (mkF m 0 #[.val (.int p0), .val (.ref a_IDENTIFIER_MISMATCH)] [])) rfl (hb hby d2_0) (by decide) (by decide)
  obtain ⟨b56, g1⟩ : ∃ z, z = h0.size := ⟨_, rfl⟩
  rw [← g1] at A1 D1 st1
  have sz_b56 : h0.size ≤ b56 := Nat.le_trans (Nat.le_refl _) (Nat.le_of_eq g1.symm)
  have g_b56 : n0 ≤ b56 := Nat.le_trans Z0 sz_b56
  have KK1 : Keep h0 h1 [] := (Keep.refl h0 []).ext E1
  have F1_46 : F_1 Z h1 b56 (.int 0) := D1 (Or.inr (tw_46 hw)) (ty := .int) (by decide)
  have F1_48 : F_2 Z h1 b56 .null := D1 (Or.inr (tw_48 hw)) (ty := (.object "java/util/Optional")) (by decide)
  have F1_50 : F_3 Z h1 b56 .null := D1 (Or.inr (tw_50 hw)) (ty := (.object "java/util/Optional")) (by decide)
  -- pc 5: java/util/Optional.empty
  have u2 : S_8 Z h1 (.ref a_EMPTY) := Sta.ext E1 f1
  obtain ⟨_, _, ⟨T3, L3, k3, n3⟩, -, X3, ⟨Lc3, hQ3, l3, y3, z3⟩, st3⟩ := Jvm.LawKit.callS X1 hx (y := M_1) hown (mvT hZ (tw_13 hw)) (mvT hZ (tw_14 hw)) (mvT hZ (tw_15 hw)) (mvT hZ (tw_16 hw)) (by decide) (backOf (W := 3) (rm3_17 l Z a0 hw [] a_EMPTY h1 n0 (Nat.le_trans Z0 KK1.1) u2) hZ (tw_16 hw) (tw_15 hw) (by decide) (by decide)) (g := (mkF m 5 #[.val (.int p0), .val (.ref a_IDENTIFIER_MISMATCH)] [(.int p0), (.ref b56), (.ref b56)])) rfl (by rw [hml]; rfl) (argsL := []) (rest := [(.int p0), (.ref b56), (.ref b56)]) (lenOf pd_1 rfl) rfl (by show 2 * 0 + _ ≤ _; exact Nat.le_of_eq rfl) (hb hby d2_5) (fun _ _ => ⟨rfl, e1, (by decide : 1 + 0 ≤ _), (by decide : 3 + 0 ≤ _)⟩)
  dsimp only [Pt.U, Pt.locs, Pt.cells, Pt.slots] at X3 l3 y3 z3 st3 hQ3
  subst l3 y3 z3
  obtain ⟨rfl, Nq3, e3⟩ := hQ3
  have N3 := Fr.app N0 Nq3
  -- pc 9: java/util/Optional.of
  obtain ⟨_, _, ⟨T4, L4, k4, n4⟩, -, X4, ⟨Lc4, hQ4, l4, y4, z4⟩, st4⟩ := Jvm.LawKit.callS X3 hx (y := M_4) hown (mvT hZ (tw_18 hw)) (mvT hZ (tw_19 hw)) (mvT hZ (tw_15 hw)) (mvT hZ (tw_20 hw)) (by decide) (backOf (W := 4) (rm4_61 l Z a0 hw [] a_IDENTIFIER_MISMATCH h1 n0 (Nat.le_trans Z0 KK1.1) ) hZ (tw_20 hw) (tw_15 hw) (by decide) (by decide)) (g := (mkF m 9 #[.val (.int p0), .val (.ref a_IDENTIFIER_MISMATCH)] [(.ref a_IDENTIFIER_MISMATCH), (.ref a_EMPTY), (.int p0), (.ref b56), (.ref b56)])) rfl (by rw [hml]; rfl) (argsL := [(.ref a_IDENTIFIER_MISMATCH)]) (rest := [(.ref a_EMPTY), (.int p0), (.ref b56), (.ref b56)]) (lenOf pd_4 rfl) rfl (by show 2 * 0 + _ ≤ _; exact Nat.le_of_eq rfl) (hb hby d2_9) (fun _ _ => ⟨rfl, e3, (by decide : 1 + 1 ≤ _), (by decide : 3 + 1 ≤ _)⟩)
  dsimp only [Pt.U, Pt.locs, Pt.cells, Pt.slots] at X4 l4 y4 z4 st4 hQ4
  subst l4 y4 z4
  obtain ⟨b63, rfl, Nq4, K4, le_b63, o4_0, o4_1⟩ := hQ4
  have N4 := Fr.app N3 Nq4
  have sz_b63 : h0.size ≤ b63 := Nat.le_trans KK1.1 le_b63
  have g_b63 : n0 ≤ b63 := Nat.le_trans Z0 sz_b63
  have KK4 : Keep h0 T4.heap [] := KK1.trans K4 (fun x hx => nomatch hx)
  -- pc 12: com/example/corestone/corestone/BulkRequest$Line.<init>
  have u5 : F_1 Z T4.heap b56 (.int 0) := Fld.keep F1_46 K4 List.not_mem_nil
  have u6 : E_2 Z T4.heap b56 := Exa.keep A1 K4
  have u7 : F_2 Z T4.heap b56 .null := Fld.keep F1_48 K4 List.not_mem_nil
  have u8 : F_3 Z T4.heap b56 .null := Fld.keep F1_50 K4 List.not_mem_nil
  obtain ⟨_, _, ⟨T9, L9, k9, n9⟩, -, X9, ⟨Lc9, hQ9, l9, y9, z9⟩, st9⟩ := X4.specialBack hx (y := M_6) rfl hown (mvT hZ (tw_36 hw)) (mvT hZ (tw_37 hw)) (mvT hZ (tw_38 hw)) (by decide) (backOf (W := 1) (rm8_26 l Z a0 hw [] b56 p0 a_EMPTY b63 T4.heap n0 (Nat.le_trans Z0 KK4.1) u5 u6 g_b56 u7 u8) hZ (tw_38 hw) (tw_9 hw) (by decide) (by decide)) (g := (mkF m 12 #[.val (.int p0), .val (.ref a_IDENTIFIER_MISMATCH)] [(.ref b63), (.ref a_EMPTY), (.int p0), (.ref b56), (.ref b56)])) rfl (by rw [hml]; rfl) (Steps.refl _) (a := b56) (argsL := [(.int p0), (.ref a_EMPTY), (.ref b63)]) (rest := [(.ref b56)]) (lenOf pd_6 rfl) rfl (by show 2 * 0 + _ ≤ _; exact Nat.le_of_eq rfl) (hb hby d2_12) (fun _ _ => ⟨rfl, rfl, (by decide : 2 + 0 ≤ _), (by decide : 4 + 0 ≤ _)⟩)
  dsimp only [Pt.U, Pt.locs, Pt.cells, Pt.slots] at X9 l9 y9 z9 st9 hQ9
  subst l9 y9 z9
  obtain ⟨rfl, Nq9, K9, o9_0, o9_1, o9_2⟩ := hQ9
  have N9 := Fr.app N4 Nq9
  have KK9 : Keep h0 T9.heap [] := KK4.trans K9 (fun x hx => (List.mem_cons.mp hx).elim (fun q => q ▸ (Or.inr sz_b56)) (fun hx => nomatch hx))
  have u10 : E_2 Z T9.heap b56 := Exa.keep u6 K9
  have u11 : E_1 Z T9.heap b63 := Exa.keep o4_0 K9
  have ne12 : b56 ≠ b63 := Nat.ne_of_lt (Nat.lt_of_lt_of_le (Exa.lt A1) le_b63)
  have u13 : F_0 Z T9.heap b63 (.ref a_IDENTIFIER_MISMATCH) := Fld.keep o4_1 K9 (own_notin (Ne.symm ne12) List.not_mem_nil)
  obtain ⟨fs, hr, hrun, hended, hW, hsame⟩ := X9.leave (v := (some (.ref b56))) (fun h => by rw [Bd.returns] at h; cases h)
  refine ⟨_, _, castTop (ef2_IR m p0 a_IDENTIFIER_MISMATCH) ?_, hrun, hended, _, _, rfl, ?_, ⟨_, rfl⟩, hW, hsame.mono (by decide) (by decide)⟩
  · show Steps p.tables e below (s₁.setTop (mkF m 0 #[.val (.int p0), .val (.ref a_IDENTIFIER_MISMATCH)] [])) _
    refine st1 _ ?_
    refine XS.dup X1.here hx rfl (hb hby d2_3) rfl rfl ?_
    refine XS.iloadN X1.here hx rfl (hb hby d2_4) rfl ?_
    show Steps p.tables e below (T1.setTop (mkF m 5 #[.val (.int p0), .val (.ref a_IDENTIFIER_MISMATCH)] [(.int p0), (.ref b56), (.ref b56)])) _
    refine st3 _ ?_
    refine XS.aloadN X3.here hx rfl (hb hby d2_8) rfl rfl ?_
    show Steps p.tables e below (T3.setTop (mkF m 9 #[.val (.int p0), .val (.ref a_IDENTIFIER_MISMATCH)] [(.ref a_IDENTIFIER_MISMATCH), (.ref a_EMPTY), (.int p0), (.ref b56), (.ref b56)])) _
    refine st4 _ ?_
    show Steps p.tables e below (T4.setTop (mkF m 12 #[.val (.int p0), .val (.ref a_IDENTIFIER_MISMATCH)] [(.ref b63), (.ref a_EMPTY), (.int p0), (.ref b56), (.ref b56)])) _
    refine st9.trans ?_
    show Steps p.tables e below (T9.setTop (mkF m 15 #[.val (.int p0), .val (.ref a_IDENTIFIER_MISMATCH)] [(.ref b56)])) _
    jvm_step X9.here [X9.here.top, hx, (hb hby d2_15), X9.method', Bd.returns, Value.isRef, FieldType.isReference]
    first | (intro acts; rw [hr _ acts rfl rfl rfl]) | rw [hr _ _ rfl rfl rfl]
    exact Steps.refl _
  · show Q2_65 Z p0 a_EMPTY a_IDENTIFIER_MISMATCH h0 n0 _ T9.heap _
    exact ⟨b56, b63, rfl, N9, KK9, sz_b56, sz_b63, u10, o9_0, o9_1, o9_2, u11, u13, ne12⟩
set_option maxRecDepth 65536 in
set_option maxHeartbeats 40000000 in
theorem rm12_68 (l : Launch) (Z : State) (a0 : Array Value) (hw : ∀ d ∈ tables_1, d.before a0 Z = true) (ws : List Jvm.Cond) (c0_a : Addr) (a_IDENTIFIER_MISMATCH : Addr) (h0 : Heap) (n0 : Nat) (Z0 : n0 ≤ h0.size) (f1 : F_0 Z h0 c0_a (.ref a_IDENTIFIER_MISMATCH)) :
    MetFree l M_10 (head1 (Jvm.Cond.code M_10 jdk_32_method_6_code 1 (some .boolean) :: ws) R_0_0_0_0) (fun a U => a = #[(.ref c0_a)] ∧ Z.Warmed39 U.vm ∧ U.heap = h0) (fun _ _ _ _ _ => True) (fun _ U o U' => ∃ v L, o = .returned v ∧ QP (some (.int 1)) h0 n0 v U'.heap L ∧ FrameEnd U o U' L R_0_0_0_0.cells R_0_0_0_0.slots) := by
  refine MetFree.of_bodySF (plainFor_of_name pn_java_util_Optional) hisR ?_
  intro p e s m args below meth c s₁ Bd hml0 hP hK
  obtain ⟨rfl, hZ, hh⟩ := hP
  have hx := Bd.exec
  have hby := Bd.bytes
  have hml : c.maxLocals = 1 := hml0
  have hown : s.vm.findClass "java/util/Optional" = some m.cls := findClass_of_methodNamed Bd.named
  have hnm := (name_of_methodNamed Bd.named Bd.method).1
  have X0 : Stand p l e R_0_0_0_0 s m #[(.ref c0_a)] below meth c s₁ [] 0 0 := Stand.of_body Bd
  have e0 : s₁.heap = h0 := by rw [← hh, Bd.state]; rfl
  have N0 := Fr.nil n0
  obtain ⟨T1, X1, e1, st1⟩ := getF X0 hx hZ hown (host := "") (Or.inl (tw_34 hw)) Via.refl e0 f1 (g := (mkF m 1 #[.val (.ref c0_a)] [(.ref c0_a)])) rfl rfl (hb hby d12_1)
  obtain ⟨fs, hr, hrun, hended, hW, hsame⟩ := X1.leave (v := (some (.int 1))) (fun h => by rw [Bd.returns] at h; cases h)
  refine ⟨_, _, castTop (ef12_R m c0_a) ?_, hrun, hended, _, _, rfl, ?_, ⟨_, rfl⟩, hW, hsame.mono (by decide) (by decide)⟩
  · show Steps p.tables e below (s₁.setTop (mkF m 0 #[.val (.ref c0_a)] [])) _
    refine XS.aloadN X0.here hx rfl (hb hby d12_0) rfl rfl ?_
    show Steps p.tables e below (s₁.setTop (mkF m 1 #[.val (.ref c0_a)] [(.ref c0_a)])) _
    refine st1 _ ?_
    refine XS.ifnullNo X1.here hx rfl (hb hby d12_4) rfl ?_
    refine XS.iconst X1.here hx rfl (hb hby d12_7) ?_
    refine XS.goto X1.here hx rfl (pc0 := 8) (pc' := 12) rfl (hb hby d12_8) (by decide) (by decide) ?_
    show Steps p.tables e below (T1.setTop (mkF m 12 #[.val (.ref c0_a)] [(.int 1)])) _
    exact retN X1 hx (t := .boolean) Bd.returns (by simp) (hb hby d12_12) hr
  · show QP (some (.int 1)) h0 n0 _ T1.heap _
    rw [e1]
    exact ⟨rfl, N0, rfl⟩
set_option maxRecDepth 65536 in
set_option maxHeartbeats 40000000 in
theorem rm14_69 (l : Launch) (Z : State) (a0 : Array Value) (hw : ∀ d ∈ tables_1, d.before a0 Z = true) (ws : List Jvm.Cond) (c0_a : Addr) (a_IDENTIFIER_MISMATCH : Addr) (h0 : Heap) (n0 : Nat) (Z0 : n0 ≤ h0.size) (f1 : F_0 Z h0 c0_a (.ref a_IDENTIFIER_MISMATCH)) :
    MetFree l M_12 (head1 (Jvm.Cond.code M_12 jdk_32_method_5_code 1 (some (.object "java/lang/Object")) :: ws) R_0_0_0_0) (fun a U => a = #[(.ref c0_a)] ∧ Z.Warmed39 U.vm ∧ U.heap = h0) (fun _ _ _ _ _ => True) (fun _ U o U' => ∃ v L, o = .returned v ∧ QP (some (.ref a_IDENTIFIER_MISMATCH)) h0 n0 v U'.heap L ∧ FrameEnd U o U' L R_0_0_0_0.cells R_0_0_0_0.slots) := by
  refine MetFree.of_bodySF (plainFor_of_name pn_java_util_Optional) hisR ?_
  intro p e s m args below meth c s₁ Bd hml0 hP hK
  obtain ⟨rfl, hZ, hh⟩ := hP
  have hx := Bd.exec
  have hby := Bd.bytes
  have hml : c.maxLocals = 1 := hml0
  have hown : s.vm.findClass "java/util/Optional" = some m.cls := findClass_of_methodNamed Bd.named
  have hnm := (name_of_methodNamed Bd.named Bd.method).1
  have X0 : Stand p l e R_0_0_0_0 s m #[(.ref c0_a)] below meth c s₁ [] 0 0 := Stand.of_body Bd
  have e0 : s₁.heap = h0 := by rw [← hh, Bd.state]; rfl
  have N0 := Fr.nil n0
  obtain ⟨T1, X1, e1, st1⟩ := getF X0 hx hZ hown (host := "") (Or.inl (tw_34 hw)) Via.refl e0 f1 (g := (mkF m 1 #[.val (.ref c0_a)] [(.ref c0_a)])) rfl rfl (hb hby d14_1)
  obtain ⟨T2, X2, e2, st2⟩ := getF X1 hx hZ hown (host := "") (Or.inl (tw_34 hw)) Via.refl e1 f1 (g := (mkF m 18 #[.val (.ref c0_a)] [(.ref c0_a)])) rfl rfl (hb hby d14_18)
  obtain ⟨fs, hr, hrun, hended, hW, hsame⟩ := X2.leave (v := (some (.ref a_IDENTIFIER_MISMATCH))) (fun h => by rw [Bd.returns] at h; cases h)
  refine ⟨_, _, castTop (ef14_R m c0_a) ?_, hrun, hended, _, _, rfl, ?_, ⟨_, rfl⟩, hW, hsame.mono (by decide) (by decide)⟩
  · show Steps p.tables e below (s₁.setTop (mkF m 0 #[.val (.ref c0_a)] [])) _
    refine XS.aloadN X0.here hx rfl (hb hby d14_0) rfl rfl ?_
    show Steps p.tables e below (s₁.setTop (mkF m 1 #[.val (.ref c0_a)] [(.ref c0_a)])) _
    refine st1 _ ?_
    refine XS.ifnonnullYes X1.here hx rfl (pc0 := 4) (pc' := 17) rfl (hb hby d14_4) rfl (by decide) (by decide) ?_
    refine XS.aloadN X1.here hx rfl (hb hby d14_17) rfl rfl ?_
    show Steps p.tables e below (T1.setTop (mkF m 18 #[.val (.ref c0_a)] [(.ref c0_a)])) _
    refine st2 _ ?_
    show Steps p.tables e below (T2.setTop (mkF m 21 #[.val (.ref c0_a)] [(.ref a_IDENTIFIER_MISMATCH)])) _
    jvm_step X2.here [X2.here.top, hx, (hb hby d14_21), X2.method', Bd.returns, Value.isRef, FieldType.isReference]
    first | (intro acts; rw [hr _ acts rfl rfl rfl]) | rw [hr _ _ rfl rfl rfl]
    exact Steps.refl _
  · show QP (some (.ref a_IDENTIFIER_MISMATCH)) h0 n0 _ T2.heap _
    rw [e2]
    exact ⟨rfl, N0, rfl⟩
set_option maxRecDepth 65536 in
set_option maxHeartbeats 40000000 in
theorem rm0_70 (l : Launch) (Z : State) (a0 : Array Value) (hw : ∀ d ∈ tables_1, d.before a0 Z = true) (ws : List Jvm.Cond) (p0 : Int32) (p1 : Int32) (a_IDENTIFIER_MISMATCH : Addr) (a_EMPTY : Addr) (h0 : Heap) (n0 : Nat) (Z0 : n0 ≤ h0.size) (f1 : (p1 &&& (7 : Int32)) = (2 : Int32)) (f2 : S_7 Z h0 (.ref a_IDENTIFIER_MISMATCH)) (f3 : S_8 Z h0 (.ref a_EMPTY)) (f4 : F_0 Z h0 a_EMPTY .null) (f5 : E_1 Z h0 a_EMPTY) :
    MetFree l x (head1 (Jvm.Cond.code x code maxLocals ret :: ws) room_1) (fun a U => a = #[(.int p0), (.int p1)] ∧ Z.Warmed39 U.vm ∧ U.heap = h0) (fun _ _ _ _ _ => True) (fun _ U o U' => ∃ v L, o = .returned v ∧ QT n0 v U'.heap L ∧ FrameEnd U o U' L room_1.cells room_1.slots) := by
  refine MetFree.of_bodySF (plainFor_of_name pn_com_example_corestone_corestone_LineRefusedPinLaw) hisR ?_
  intro p e s m args below meth c s₁ Bd hml0 hP hK
  obtain ⟨rfl, hZ, hh⟩ := hP
  have hx := Bd.exec
  have hby := Bd.bytes
  have hml : c.maxLocals = 4 := hml0
  have hown : s.vm.findClass "com/example/corestone/corestone/LineRefusedPinLaw" = some m.cls := findClass_of_methodNamed Bd.named
  have hnm := (name_of_methodNamed Bd.named Bd.method).1
  have X0 : Stand p l e room_1 s m #[(.int p0), (.int p1)] below meth c s₁ [] 0 0 := Stand.of_body Bd
  have e0 : s₁.heap = h0 := by rw [← hh, Bd.state]; rfl
  have N0 := Fr.nil n0
  -- pc 1: com/example/corestone/corestone/LineRefusedPinLaw.pick
  obtain ⟨_, _, ⟨T1, L1, k1, n1⟩, -, X1, ⟨Lc1, hQ1, l1, y1, z1⟩, st1⟩ := Jvm.LawKit.callS X0 hx (y := M_0) hown (mvT hZ (tw_0 hw)) (mvT hZ (tw_1 hw)) (mvT hZ (tw_2 hw)) (mvT hZ (tw_3 hw)) (by decide) (backOf (W := 0) (rm1_55 l Z a0 hw [] p1 a_IDENTIFIER_MISMATCH h0 n0 Z0 f1 f2) hZ (tw_3 hw) (tw_2 hw) (by decide) (by decide)) (g := (mkF m 1 #[.val (.int p0), .val (.int p1), .unset, .unset] [(.int p1)])) rfl (by rw [hml]; rfl) (argsL := [(.int p1)]) (rest := []) (lenOf pd_0 rfl) rfl (by show 2 * 0 + _ ≤ _; exact Nat.le_of_eq rfl) (hb hby at_1) (fun _ _ => ⟨rfl, e0, (by decide : 0 + 0 ≤ _), (by decide : 0 + 0 ≤ _)⟩)
  dsimp only [Pt.U, Pt.locs, Pt.cells, Pt.slots] at X1 l1 y1 z1 st1 hQ1
  subst l1 y1 z1
  obtain ⟨rfl, Nq1, e1⟩ := hQ1
  have N1 := Fr.app N0 Nq1
  -- pc 7: com/example/corestone/corestone/BulkRequest$Line.refused
  obtain ⟨_, _, ⟨T2, L2, k2, n2⟩, -, X2, ⟨Lc2, hQ2, l2, y2, z2⟩, st2⟩ := Jvm.LawKit.callS X1 hx (y := M_7) hown (mvT hZ (tw_7 hw)) (mvT hZ (tw_8 hw)) (mvT hZ (tw_9 hw)) (mvT hZ (tw_10 hw)) (by decide) (backOf (W := 0) (rm2_64 l Z a0 hw [] p0 a_IDENTIFIER_MISMATCH a_EMPTY h0 n0 Z0 f3) hZ (tw_10 hw) (tw_9 hw) (by decide) (by decide)) (g := (mkF m 7 #[.val (.int p0), .val (.int p1), .val (.ref a_IDENTIFIER_MISMATCH), .unset] [(.ref a_IDENTIFIER_MISMATCH), (.int p0)])) rfl (by rw [hml]; rfl) (argsL := [(.int p0), (.ref a_IDENTIFIER_MISMATCH)]) (rest := []) (lenOf pd_7 rfl) rfl (by show 2 * 0 + _ ≤ _; exact Nat.le_of_eq rfl) (hb hby at_7) (fun _ _ => ⟨rfl, e1, (by decide : 0 + 2 ≤ _), (by decide : 0 + 4 ≤ _)⟩)
  dsimp only [Pt.U, Pt.locs, Pt.cells, Pt.slots] at X2 l2 y2 z2 st2 hQ2
  subst l2 y2 z2
  obtain ⟨b66, b67, rfl, Nq2, K2, le_b66, le_b67, o2_0, o2_1, o2_2, o2_3, o2_4, o2_5, o2_6⟩ := hQ2
  have N2 := Fr.app N1 Nq2
  have sz_b66 : h0.size ≤ b66 := Nat.le_trans (Nat.le_refl _) le_b66
  have g_b66 : n0 ≤ b66 := Nat.le_trans Z0 sz_b66
  have sz_b67 : h0.size ≤ b67 := Nat.le_trans (Nat.le_refl _) le_b67
  have g_b67 : n0 ≤ b67 := Nat.le_trans Z0 sz_b67
  have KK2 : Keep h0 T2.heap [] := (Keep.refl h0 []).trans K2 (fun x hx => nomatch hx)
  -- pc 18: com/example/corestone/corestone/BulkRequest$Line.number
  obtain ⟨cq3, kq3, q3a, q3b, q3c⟩ := isOf hZ rfl o2_0
  obtain ⟨_, _, ⟨T3, L3, k3, n3⟩, -, X3, ⟨Lc3, hQ3, l3, y3, z3⟩, st3⟩ := X2.virtualBack hx (y := M_8) (z := M_8) hown (mvT hZ (tw_51 hw)) (mvT hZ (tw_52 hw)) (notFace_of_selects (args := #[]) (mvT hZ (tw_54 hw))) (mvT hZ (tw_54 hw)) (mvT hZ (tw_53 hw)) (by decide) (backOf (W := 0) (rm10_32 l Z a0 hw [] b66 p0 T2.heap n0 (Nat.le_trans Z0 KK2.1) o2_1) hZ (tw_55 hw) (tw_9 hw) (by decide) (by decide)) q3a q3c (g := (mkF m 18 #[.val (.int p0), .val (.int p1), .val (.ref a_IDENTIFIER_MISMATCH), .val (.ref b66)] [(.ref b66)])) rfl (by rw [hml]; rfl) (Steps.refl _) (argsL := []) (rest := []) (lenOf pd_8 rfl) rfl (by show 2 * 0 + _ ≤ _; exact Nat.le_of_eq rfl) (hb hby at_18) (fun _ _ => ⟨rfl, rfl, (by decide : 2 + 0 ≤ _), (by decide : 4 + 0 ≤ _)⟩)
  dsimp only [Pt.U, Pt.locs, Pt.cells, Pt.slots] at X3 l3 y3 z3 st3 hQ3
  subst l3 y3 z3
  obtain ⟨rfl, Nq3, e3⟩ := hQ3
  have N3 := Fr.app N2 Nq3
  -- pc 28: com/example/corestone/corestone/BulkRequest$Line.handle
  obtain ⟨cq4, kq4, q4a, q4b, q4c⟩ := isOf hZ e3 o2_0
  obtain ⟨_, _, ⟨T4, L4, k4, n4⟩, -, X4, ⟨Lc4, hQ4, l4, y4, z4⟩, st4⟩ := X3.virtualBack hx (y := M_9) (z := M_9) hown (mvT hZ (tw_56 hw)) (mvT hZ (tw_57 hw)) (notFace_of_selects (args := #[]) (mvT hZ (tw_59 hw))) (mvT hZ (tw_59 hw)) (mvT hZ (tw_58 hw)) (by decide) (backOf (W := 0) (rm11_33 l Z a0 hw [] b66 a_EMPTY T2.heap n0 (Nat.le_trans Z0 KK2.1) o2_2) hZ (tw_60 hw) (tw_9 hw) (by decide) (by decide)) q4a q4c (g := (mkF m 28 #[.val (.int p0), .val (.int p1), .val (.ref a_IDENTIFIER_MISMATCH), .val (.ref b66)] [(.ref b66)])) rfl (by rw [hml]; rfl) (Steps.refl _) (argsL := []) (rest := []) (lenOf pd_1 rfl) rfl (by show 2 * 0 + _ ≤ _; exact Nat.le_of_eq rfl) (hb hby at_28) (fun _ _ => ⟨rfl, e3, (by decide : 2 + 0 ≤ _), (by decide : 4 + 0 ≤ _)⟩)
  dsimp only [Pt.U, Pt.locs, Pt.cells, Pt.slots] at X4 l4 y4 z4 st4 hQ4
  subst l4 y4 z4
  obtain ⟨rfl, Nq4, e4⟩ := hQ4
  have N4 := Fr.app N3 Nq4
  -- pc 35: com/example/corestone/corestone/BulkRequest$Line.handle
  obtain ⟨cq5, kq5, q5a, q5b, q5c⟩ := isOf hZ e4 o2_0
  obtain ⟨_, _, ⟨T5, L5, k5, n5⟩, -, X5, ⟨Lc5, hQ5, l5, y5, z5⟩, st5⟩ := X4.virtualBack hx (y := M_9) (z := M_9) hown (mvT hZ (tw_56 hw)) (mvT hZ (tw_57 hw)) (notFace_of_selects (args := #[]) (mvT hZ (tw_59 hw))) (mvT hZ (tw_59 hw)) (mvT hZ (tw_58 hw)) (by decide) (backOf (W := 0) (rm11_33 l Z a0 hw [] b66 a_EMPTY T2.heap n0 (Nat.le_trans Z0 KK2.1) o2_2) hZ (tw_60 hw) (tw_9 hw) (by decide) (by decide)) q5a q5c (g := (mkF m 35 #[.val (.int p0), .val (.int p1), .val (.ref a_IDENTIFIER_MISMATCH), .val (.ref b66)] [(.ref b66)])) rfl (by rw [hml]; rfl) (Steps.refl _) (argsL := []) (rest := []) (lenOf pd_1 rfl) rfl (by show 2 * 0 + _ ≤ _; exact Nat.le_of_eq rfl) (hb hby at_35) (fun _ _ => ⟨rfl, e4, (by decide : 2 + 0 ≤ _), (by decide : 4 + 0 ≤ _)⟩)
  dsimp only [Pt.U, Pt.locs, Pt.cells, Pt.slots] at X5 l5 y5 z5 st5 hQ5
  subst l5 y5 z5
  obtain ⟨rfl, Nq5, e5⟩ := hQ5
  have N5 := Fr.app N4 Nq5
  -- pc 38: java/util/Optional.isPresent
  have u6 : F_0 Z T2.heap a_EMPTY .null := Fld.keep f4 K2 List.not_mem_nil
  have u8 : E_1 Z T2.heap a_EMPTY := Exa.keep f5 K2
  obtain ⟨cq7, kq7, q7a, q7b, q7c⟩ := isOf hZ e5 u8
  obtain ⟨_, _, ⟨T7, L7, k7, n7⟩, -, X7, ⟨Lc7, hQ7, l7, y7, z7⟩, st7⟩ := X5.virtualBack hx (y := M_10) (z := M_10) hown (mvT hZ (tw_61 hw)) (mvT hZ (tw_62 hw)) (notFace_of_selects (args := #[]) (mvT hZ (tw_64 hw))) (mvT hZ (tw_64 hw)) (mvT hZ (tw_63 hw)) (by decide) (backOf (W := 0) (rm12_34 l Z a0 hw [] a_EMPTY T2.heap n0 (Nat.le_trans Z0 KK2.1) u6) hZ (tw_65 hw) (tw_15 hw) (by decide) (by decide)) q7a q7c (g := (mkF m 38 #[.val (.int p0), .val (.int p1), .val (.ref a_IDENTIFIER_MISMATCH), .val (.ref b66)] [(.ref a_EMPTY)])) rfl (by rw [hml]; rfl) (Steps.refl _) (argsL := []) (rest := []) (lenOf pd_9 rfl) rfl (by show 2 * 0 + _ ≤ _; exact Nat.le_of_eq rfl) (hb hby at_38) (fun _ _ => ⟨rfl, e5, (by decide : 2 + 0 ≤ _), (by decide : 4 + 0 ≤ _)⟩)
  dsimp only [Pt.U, Pt.locs, Pt.cells, Pt.slots] at X7 l7 y7 z7 st7 hQ7
  subst l7 y7 z7
  obtain ⟨rfl, Nq7, e7⟩ := hQ7
  have N7 := Fr.app N5 Nq7
  -- pc 47: com/example/corestone/corestone/BulkRequest$Line.refusal
  obtain ⟨cq9, kq9, q9a, q9b, q9c⟩ := isOf hZ e7 o2_0
  obtain ⟨_, _, ⟨T9, L9, k9, n9⟩, -, X9, ⟨Lc9, hQ9, l9, y9, z9⟩, st9⟩ := X7.virtualBack hx (y := M_11) (z := M_11) hown (mvT hZ (tw_66 hw)) (mvT hZ (tw_67 hw)) (notFace_of_selects (args := #[]) (mvT hZ (tw_69 hw))) (mvT hZ (tw_69 hw)) (mvT hZ (tw_68 hw)) (by decide) (backOf (W := 0) (rm13_35 l Z a0 hw [] b66 b67 T2.heap n0 (Nat.le_trans Z0 KK2.1) o2_3) hZ (tw_70 hw) (tw_9 hw) (by decide) (by decide)) q9a q9c (g := (mkF m 47 #[.val (.int p0), .val (.int p1), .val (.ref a_IDENTIFIER_MISMATCH), .val (.ref b66)] [(.ref b66)])) rfl (by rw [hml]; rfl) (Steps.refl _) (argsL := []) (rest := []) (lenOf pd_1 rfl) rfl (by show 2 * 0 + _ ≤ _; exact Nat.le_of_eq rfl) (hb hby at_47) (fun _ _ => ⟨rfl, e7, (by decide : 2 + 0 ≤ _), (by decide : 4 + 0 ≤ _)⟩)
  dsimp only [Pt.U, Pt.locs, Pt.cells, Pt.slots] at X9 l9 y9 z9 st9 hQ9
  subst l9 y9 z9
  obtain ⟨rfl, Nq9, e9⟩ := hQ9
  have N9 := Fr.app N7 Nq9
  -- pc 54: com/example/corestone/corestone/BulkRequest$Line.refusal
  obtain ⟨cq10, kq10, q10a, q10b, q10c⟩ := isOf hZ e9 o2_0
  obtain ⟨_, _, ⟨T10, L10, k10, n10⟩, -, X10, ⟨Lc10, hQ10, l10, y10, z10⟩, st10⟩ := X9.virtualBack hx (y := M_11) (z := M_11) hown (mvT hZ (tw_66 hw)) (mvT hZ (tw_67 hw)) (notFace_of_selects (args := #[]) (mvT hZ (tw_69 hw))) (mvT hZ (tw_69 hw)) (mvT hZ (tw_68 hw)) (by decide) (backOf (W := 0) (rm13_35 l Z a0 hw [] b66 b67 T2.heap n0 (Nat.le_trans Z0 KK2.1) o2_3) hZ (tw_70 hw) (tw_9 hw) (by decide) (by decide)) q10a q10c (g := (mkF m 54 #[.val (.int p0), .val (.int p1), .val (.ref a_IDENTIFIER_MISMATCH), .val (.ref b66)] [(.ref b66)])) rfl (by rw [hml]; rfl) (Steps.refl _) (argsL := []) (rest := []) (lenOf pd_1 rfl) rfl (by show 2 * 0 + _ ≤ _; exact Nat.le_of_eq rfl) (hb hby at_54) (fun _ _ => ⟨rfl, e9, (by decide : 2 + 0 ≤ _), (by decide : 4 + 0 ≤ _)⟩)
  dsimp only [Pt.U, Pt.locs, Pt.cells, Pt.slots] at X10 l10 y10 z10 st10 hQ10
  subst l10 y10 z10
  obtain ⟨rfl, Nq10, e10⟩ := hQ10
  have N10 := Fr.app N9 Nq10
  -- pc 57: java/util/Optional.isPresent
  obtain ⟨cq11, kq11, q11a, q11b, q11c⟩ := isOf hZ e10 o2_4
  obtain ⟨_, _, ⟨T11, L11, k11, n11⟩, -, X11, ⟨Lc11, hQ11, l11, y11, z11⟩, st11⟩ := X10.virtualBack hx (y := M_10) (z := M_10) hown (mvT hZ (tw_61 hw)) (mvT hZ (tw_62 hw)) (notFace_of_selects (args := #[]) (mvT hZ (tw_64 hw))) (mvT hZ (tw_64 hw)) (mvT hZ (tw_63 hw)) (by decide) (backOf (W := 0) (rm12_68 l Z a0 hw [] b67 a_IDENTIFIER_MISMATCH T2.heap n0 (Nat.le_trans Z0 KK2.1) o2_5) hZ (tw_65 hw) (tw_15 hw) (by decide) (by decide)) q11a q11c (g := (mkF m 57 #[.val (.int p0), .val (.int p1), .val (.ref a_IDENTIFIER_MISMATCH), .val (.ref b66)] [(.ref b67)])) rfl (by rw [hml]; rfl) (Steps.refl _) (argsL := []) (rest := []) (lenOf pd_9 rfl) rfl (by show 2 * 0 + _ ≤ _; exact Nat.le_of_eq rfl) (hb hby at_57) (fun _ _ => ⟨rfl, e10, (by decide : 2 + 0 ≤ _), (by decide : 4 + 0 ≤ _)⟩)
  dsimp only [Pt.U, Pt.locs, Pt.cells, Pt.slots] at X11 l11 y11 z11 st11 hQ11
  subst l11 y11 z11
  obtain ⟨rfl, Nq11, e11⟩ := hQ11
  have N11 := Fr.app N10 Nq11
  -- pc 66: com/example/corestone/corestone/BulkRequest$Line.refusal
  obtain ⟨cq12, kq12, q12a, q12b, q12c⟩ := isOf hZ e11 o2_0
  obtain ⟨_, _, ⟨T12, L12, k12, n12⟩, -, X12, ⟨Lc12, hQ12, l12, y12, z12⟩, st12⟩ := X11.virtualBack hx (y := M_11) (z := M_11) hown (mvT hZ (tw_66 hw)) (mvT hZ (tw_67 hw)) (notFace_of_selects (args := #[]) (mvT hZ (tw_69 hw))) (mvT hZ (tw_69 hw)) (mvT hZ (tw_68 hw)) (by decide) (backOf (W := 0) (rm13_35 l Z a0 hw [] b66 b67 T2.heap n0 (Nat.le_trans Z0 KK2.1) o2_3) hZ (tw_70 hw) (tw_9 hw) (by decide) (by decide)) q12a q12c (g := (mkF m 66 #[.val (.int p0), .val (.int p1), .val (.ref a_IDENTIFIER_MISMATCH), .val (.ref b66)] [(.ref b66)])) rfl (by rw [hml]; rfl) (Steps.refl _) (argsL := []) (rest := []) (lenOf pd_1 rfl) rfl (by show 2 * 0 + _ ≤ _; exact Nat.le_of_eq rfl) (hb hby at_66) (fun _ _ => ⟨rfl, e11, (by decide : 2 + 0 ≤ _), (by decide : 4 + 0 ≤ _)⟩)
  dsimp only [Pt.U, Pt.locs, Pt.cells, Pt.slots] at X12 l12 y12 z12 st12 hQ12
  subst l12 y12 z12
  obtain ⟨rfl, Nq12, e12⟩ := hQ12
  have N12 := Fr.app N11 Nq12
  -- pc 69: java/util/Optional.get
  obtain ⟨cq13, kq13, q13a, q13b, q13c⟩ := isOf hZ e12 o2_4
  obtain ⟨_, _, ⟨T13, L13, k13, n13⟩, -, X13, ⟨Lc13, hQ13, l13, y13, z13⟩, st13⟩ := X12.virtualBack hx (y := M_12) (z := M_12) hown (mvT hZ (tw_71 hw)) (mvT hZ (tw_72 hw)) (notFace_of_selects (args := #[]) (mvT hZ (tw_74 hw))) (mvT hZ (tw_74 hw)) (mvT hZ (tw_73 hw)) (by decide) (backOf (W := 0) (rm14_69 l Z a0 hw [] b67 a_IDENTIFIER_MISMATCH T2.heap n0 (Nat.le_trans Z0 KK2.1) o2_5) hZ (tw_75 hw) (tw_15 hw) (by decide) (by decide)) q13a q13c (g := (mkF m 69 #[.val (.int p0), .val (.int p1), .val (.ref a_IDENTIFIER_MISMATCH), .val (.ref b66)] [(.ref b67)])) rfl (by rw [hml]; rfl) (Steps.refl _) (argsL := []) (rest := []) (lenOf pd_10 rfl) rfl (by show 2 * 0 + _ ≤ _; exact Nat.le_of_eq rfl) (hb hby at_69) (fun _ _ => ⟨rfl, e12, (by decide : 2 + 0 ≤ _), (by decide : 4 + 0 ≤ _)⟩)
  dsimp only [Pt.U, Pt.locs, Pt.cells, Pt.slots] at X13 l13 y13 z13 st13 hQ13
  subst l13 y13 z13
  obtain ⟨rfl, Nq13, e13⟩ := hQ13
  have N13 := Fr.app N12 Nq13
  obtain ⟨fs, hr, hrun, hended, hW, hsame⟩ := X13.leave (v := (some (.int 1))) (fun h => by rw [Bd.returns] at h; cases h)
  refine ⟨_, _, castTop (ef0_II m p0 p1) ?_, hrun, hended, _, _, rfl, ?_, ⟨_, rfl⟩, hW, hsame.mono (by decide) (by decide)⟩
  · show Steps p.tables e below (s₁.setTop (mkF m 0 #[.val (.int p0), .val (.int p1), .unset, .unset] [])) _
    refine XS.iloadN X0.here hx rfl (hb hby at_0) rfl ?_
    show Steps p.tables e below (s₁.setTop (mkF m 1 #[.val (.int p0), .val (.int p1), .unset, .unset] [(.int p1)])) _
    refine st1 _ ?_
    refine XS.astoreN X1.here hx rfl (hb hby at_4) rfl rfl (l' := #[.val (.int p0), .val (.int p1), .val (.ref a_IDENTIFIER_MISMATCH), .unset]) rfl ?_
    refine XS.iloadN X1.here hx rfl (hb hby at_5) rfl ?_
    refine XS.aloadN X1.here hx rfl (hb hby at_6) rfl rfl ?_
    show Steps p.tables e below (T1.setTop (mkF m 7 #[.val (.int p0), .val (.int p1), .val (.ref a_IDENTIFIER_MISMATCH), .unset] [(.ref a_IDENTIFIER_MISMATCH), (.int p0)])) _
    refine st2 _ ?_
    refine XS.astoreN X2.here hx rfl (hb hby at_10) rfl rfl (l' := #[.val (.int p0), .val (.int p1), .val (.ref a_IDENTIFIER_MISMATCH), .val (.ref b66)]) rfl ?_
    refine XS.aloadN X2.here hx rfl (hb hby at_11) rfl rfl ?_
    refine XS.ifnonnullYes X2.here hx rfl (pc0 := 12) (pc' := 17) rfl (hb hby at_12) rfl (by decide) (by decide) ?_
    refine XS.aloadN X2.here hx rfl (hb hby at_17) rfl rfl ?_
    show Steps p.tables e below (T2.setTop (mkF m 18 #[.val (.int p0), .val (.int p1), .val (.ref a_IDENTIFIER_MISMATCH), .val (.ref b66)] [(.ref b66)])) _
    refine st3.trans ?_
    refine XS.iloadN X3.here hx rfl (hb hby at_21) rfl ?_
    refine XS.icmpYes X3.here hx rfl (pc0 := 22) (pc' := 27) rfl (hb hby at_22) rfl (teq (rfl : p0 = p0)).1 (by decide) (by decide) ?_
    refine XS.aloadN X3.here hx rfl (hb hby at_27) rfl rfl ?_
    show Steps p.tables e below (T3.setTop (mkF m 28 #[.val (.int p0), .val (.int p1), .val (.ref a_IDENTIFIER_MISMATCH), .val (.ref b66)] [(.ref b66)])) _
    refine st4.trans ?_
    refine XS.ifnullNo X4.here hx rfl (hb hby at_31) rfl ?_
    refine XS.aloadN X4.here hx rfl (hb hby at_34) rfl rfl ?_
    show Steps p.tables e below (T4.setTop (mkF m 35 #[.val (.int p0), .val (.int p1), .val (.ref a_IDENTIFIER_MISMATCH), .val (.ref b66)] [(.ref b66)])) _
    refine st5.trans ?_
    show Steps p.tables e below (T5.setTop (mkF m 38 #[.val (.int p0), .val (.int p1), .val (.ref a_IDENTIFIER_MISMATCH), .val (.ref b66)] [(.ref a_EMPTY)])) _
    refine st7.trans ?_
    refine XS.ifYes X7.here hx rfl (pc0 := 41) (pc' := 46) rfl (hb hby at_41) rfl (by decide) (by decide) (by decide) ?_
    refine XS.aloadN X7.here hx rfl (hb hby at_46) rfl rfl ?_
    show Steps p.tables e below (T7.setTop (mkF m 47 #[.val (.int p0), .val (.int p1), .val (.ref a_IDENTIFIER_MISMATCH), .val (.ref b66)] [(.ref b66)])) _
    refine st9.trans ?_
    refine XS.ifnullNo X9.here hx rfl (hb hby at_50) rfl ?_
    refine XS.aloadN X9.here hx rfl (hb hby at_53) rfl rfl ?_
    show Steps p.tables e below (T9.setTop (mkF m 54 #[.val (.int p0), .val (.int p1), .val (.ref a_IDENTIFIER_MISMATCH), .val (.ref b66)] [(.ref b66)])) _
    refine st10.trans ?_
    show Steps p.tables e below (T10.setTop (mkF m 57 #[.val (.int p0), .val (.int p1), .val (.ref a_IDENTIFIER_MISMATCH), .val (.ref b66)] [(.ref b67)])) _
    refine st11.trans ?_
    refine XS.ifYes X11.here hx rfl (pc0 := 60) (pc' := 65) rfl (hb hby at_60) rfl (by decide) (by decide) (by decide) ?_
    refine XS.aloadN X11.here hx rfl (hb hby at_65) rfl rfl ?_
    show Steps p.tables e below (T11.setTop (mkF m 66 #[.val (.int p0), .val (.int p1), .val (.ref a_IDENTIFIER_MISMATCH), .val (.ref b66)] [(.ref b66)])) _
    refine st12.trans ?_
    show Steps p.tables e below (T12.setTop (mkF m 69 #[.val (.int p0), .val (.int p1), .val (.ref a_IDENTIFIER_MISMATCH), .val (.ref b66)] [(.ref b67)])) _
    refine st13.trans ?_
    refine XS.aloadN X13.here hx rfl (hb hby at_72) rfl rfl ?_
    show Steps p.tables e below (T13.setTop (mkF m 73 #[.val (.int p0), .val (.int p1), .val (.ref a_IDENTIFIER_MISMATCH), .val (.ref b66)] [(.ref a_IDENTIFIER_MISMATCH), (.ref a_IDENTIFIER_MISMATCH)])) _
    refine Jvm.RoadKit.acmp (g := (mkF m 73 #[.val (.int p0), .val (.int p1), .val (.ref a_IDENTIFIER_MISMATCH), .val (.ref b66)] [(.ref a_IDENTIFIER_MISMATCH), (.ref a_IDENTIFIER_MISMATCH)])) X13 hx rfl rfl rfl (pc0 := 73) (pc' := 76) (same := true) rfl (hb hby at_73) rfl (decide_eq_true rfl) (by decide) (by decide) ?_
    refine XS.iconst X13.here hx rfl (hb hby at_76) ?_
    refine XS.goto X13.here hx rfl (pc0 := 77) (pc' := 81) rfl (hb hby at_77) (by decide) (by decide) ?_
    show Steps p.tables e below (T13.setTop (mkF m 81 #[.val (.int p0), .val (.int p1), .val (.ref a_IDENTIFIER_MISMATCH), .val (.ref b66)] [(.int 1)])) _
    exact retN X13 hx (t := .boolean) Bd.returns (by simp) (hb hby at_81) hr
  · show QT n0 _ T13.heap _
    rw [e13]
    exact ⟨rfl, N13⟩
theorem d1_31 : decode method_2_code 31 = .ok (.iload_n 1, 1) := by decide +kernel
theorem d1_32 : decode method_2_code 32 = .ok (.iconst 3, 1) := by decide +kernel
theorem d1_33 : decode method_2_code 33 = .ok (.if_icmp .ne 7, 3) := by decide +kernel
theorem d1_36 : decode method_2_code 36 = .ok (.getstatic 19, 3) := by decide +kernel
theorem tw_4 {a0 : Array Value} {Z : State} (hw : ∀ d ∈ tables_1, d.before a0 Z = true) : (Jvm.Cond.fieldLink "com/example/corestone/corestone/LineRefusedPinLaw" (19 : Nat) "com/example/corestone/corestone/RefusedException$Refusal" "WRONG_PREFIX" "Lcom/example/corestone/corestone/RefusedException$Refusal;").before a0 Z = true := hw _ (List.mem_of_getElem? (i := 4) rfl)
theorem d1_39 : decode method_2_code 39 = .ok (.areturn, 1) := by decide +kernel
set_option maxRecDepth 65536 in
set_option maxHeartbeats 40000000 in
theorem rm1_71 (l : Launch) (Z : State) (a0 : Array Value) (hw : ∀ d ∈ tables_1, d.before a0 Z = true) (ws : List Jvm.Cond) (p1 : Int32) (a_WRONG_PREFIX : Addr) (h0 : Heap) (n0 : Nat) (Z0 : n0 ≤ h0.size) (f1 : (p1 &&& (7 : Int32)) = (3 : Int32)) (f2 : S_0 Z h0 (.ref a_WRONG_PREFIX)) :
    MetFree l M_0 (head1 (Jvm.Cond.code M_0 method_2_code 2 (some (.object "com/example/corestone/corestone/RefusedException$Refusal")) :: ws) R_0_0_0_0) (fun a U => a = #[(.int p1)] ∧ Z.Warmed39 U.vm ∧ U.heap = h0) (fun _ _ _ _ _ => True) (fun _ U o U' => ∃ v L, o = .returned v ∧ QP (some (.ref a_WRONG_PREFIX)) h0 n0 v U'.heap L ∧ FrameEnd U o U' L R_0_0_0_0.cells R_0_0_0_0.slots) := by
  refine MetFree.of_bodySF (plainFor_of_name pn_com_example_corestone_corestone_LineRefusedPinLaw) hisR ?_
  intro p e s m args below meth c s₁ Bd hml0 hP hK
  obtain ⟨rfl, hZ, hh⟩ := hP
  have hx := Bd.exec
  have hby := Bd.bytes
  have hml : c.maxLocals = 2 := hml0
  have hown : s.vm.findClass "com/example/corestone/corestone/LineRefusedPinLaw" = some m.cls := findClass_of_methodNamed Bd.named
  have hnm := (name_of_methodNamed Bd.named Bd.method).1
  have X0 : Stand p l e R_0_0_0_0 s m #[(.int p1)] below meth c s₁ [] 0 0 := Stand.of_body Bd
  have e0 : s₁.heap = h0 := by rw [← hh, Bd.state]; rfl
  have N0 := Fr.nil n0
  obtain ⟨T1, X1, e1, st1⟩ := getS2 X0 hx hZ hown (host := "") (Or.inl (tw_4 hw)) Via.refl e0 f2 (g := (mkF m 36 #[.val (.int p1), .val (.int 3)] [])) rfl (hb hby d1_36)
  obtain ⟨fs, hr, hrun, hended, hW, hsame⟩ := X1.leave (v := (some (.ref a_WRONG_PREFIX))) (fun h => by rw [Bd.returns] at h; cases h)
  refine ⟨_, _, castTop (ef1_I m p1) ?_, hrun, hended, _, _, rfl, ?_, ⟨_, rfl⟩, hW, hsame.mono (by decide) (by decide)⟩
  · show Steps p.tables e below (s₁.setTop (mkF m 0 #[.val (.int p1), .unset] [])) _
    refine XS.iloadN X0.here hx rfl (hb hby d1_0) rfl ?_
    refine XS.bipush X0.here hx rfl (hb hby d1_1) ?_
    show Steps p.tables e below (s₁.setTop (mkF m 3 #[.val (.int p1), .unset] [(.int 7), (.int p1)])) _
    refine XS.iand X0.here hx rfl (hb hby d1_3) rfl ?_
    show Steps p.tables e below (s₁.setTop (mkF m 4 #[.val (.int p1), .unset] [(.int (p1 &&& (7 : Int32)))])) _
    rw [f1]
    refine XS.istoreN X0.here hx rfl (hb hby d1_4) rfl (l' := #[.val (.int p1), .val (.int 3)]) rfl ?_
    refine XS.iloadN X0.here hx rfl (hb hby d1_5) rfl ?_
    refine XS.ifYes X0.here hx rfl (pc0 := 6) (pc' := 13) rfl (hb hby d1_6) rfl (by decide) (by decide) (by decide) ?_
    refine XS.iloadN X0.here hx rfl (hb hby d1_13) rfl ?_
    show Steps p.tables e below (s₁.setTop (mkF m 14 #[.val (.int p1), .val (.int 3)] [(.int 3)])) _
    refine XS.iconst X0.here hx rfl (hb hby d1_14) ?_
    refine XS.icmpYes X0.here hx rfl (pc0 := 15) (pc' := 22) rfl (hb hby d1_15) rfl (by decide) (by decide) (by decide) ?_
    refine XS.iloadN X0.here hx rfl (hb hby d1_22) rfl ?_
    refine XS.iconst X0.here hx rfl (hb hby d1_23) ?_
    refine XS.icmpYes X0.here hx rfl (pc0 := 24) (pc' := 31) rfl (hb hby d1_24) rfl (by decide) (by decide) (by decide) ?_
    show Steps p.tables e below (s₁.setTop (mkF m 31 #[.val (.int p1), .val (.int 3)] [])) _
    refine XS.iloadN X0.here hx rfl (hb hby d1_31) rfl ?_
    refine XS.iconst X0.here hx rfl (hb hby d1_32) ?_
    refine XS.icmpNo X0.here hx rfl (hb hby d1_33) rfl (by decide) ?_
    show Steps p.tables e below (s₁.setTop (mkF m 36 #[.val (.int p1), .val (.int 3)] [])) _
    refine st1 _ ?_
    show Steps p.tables e below (T1.setTop (mkF m 39 #[.val (.int p1), .val (.int 3)] [(.ref a_WRONG_PREFIX)])) _
    jvm_step X1.here [X1.here.top, hx, (hb hby d1_39), X1.method', Bd.returns, Value.isRef, FieldType.isReference]
    first | (intro acts; rw [hr _ acts rfl rfl rfl]) | rw [hr _ _ rfl rfl rfl]
    exact Steps.refl _
  · show QP (some (.ref a_WRONG_PREFIX)) h0 n0 _ T1.heap _
    rw [e1]
    exact ⟨rfl, N0, rfl⟩
set_option maxRecDepth 65536 in
set_option maxHeartbeats 40000000 in
theorem rm5_74 (l : Launch) (Z : State) (a0 : Array Value) (hw : ∀ d ∈ tables_1, d.before a0 Z = true) (ws : List Jvm.Cond) (a_WRONG_PREFIX : Addr) (h0 : Heap) (n0 : Nat) (Z0 : n0 ≤ h0.size) :
    MetFree l M_2 (head1 (Jvm.Cond.code M_2 jdk_31_method_10_code 1 (some (.object "java/lang/Object")) :: ws) R_0_0_0_0) (fun a U => a = #[(.ref a_WRONG_PREFIX)] ∧ Z.Warmed39 U.vm ∧ U.heap = h0) (fun _ _ _ _ _ => True) (fun _ U o U' => ∃ v L, o = .returned v ∧ QP (some (.ref a_WRONG_PREFIX)) h0 n0 v U'.heap L ∧ FrameEnd U o U' L R_0_0_0_0.cells R_0_0_0_0.slots) := by
  refine MetFree.of_bodySF (plainFor_of_name pn_java_util_Objects) hisR ?_
  intro p e s m args below meth c s₁ Bd hml0 hP hK
  obtain ⟨rfl, hZ, hh⟩ := hP
  have hx := Bd.exec
  have hby := Bd.bytes
  have hml : c.maxLocals = 1 := hml0
  have hown : s.vm.findClass "java/util/Objects" = some m.cls := findClass_of_methodNamed Bd.named
  have hnm := (name_of_methodNamed Bd.named Bd.method).1
  have X0 : Stand p l e R_0_0_0_0 s m #[(.ref a_WRONG_PREFIX)] below meth c s₁ [] 0 0 := Stand.of_body Bd
  have e0 : s₁.heap = h0 := by rw [← hh, Bd.state]; rfl
  have N0 := Fr.nil n0
  obtain ⟨fs, hr, hrun, hended, hW, hsame⟩ := X0.leave (v := (some (.ref a_WRONG_PREFIX))) (fun h => by rw [Bd.returns] at h; cases h)
  refine ⟨_, _, castTop (ef5_R m a_WRONG_PREFIX) ?_, hrun, hended, _, _, rfl, ?_, ⟨_, rfl⟩, hW, hsame.mono (by decide) (by decide)⟩
  · show Steps p.tables e below (s₁.setTop (mkF m 0 #[.val (.ref a_WRONG_PREFIX)] [])) _
    refine XS.aloadN X0.here hx rfl (hb hby d5_0) rfl rfl ?_
    refine XS.ifnonnullYes X0.here hx rfl (pc0 := 1) (pc' := 12) rfl (hb hby d5_1) rfl (by decide) (by decide) ?_
    refine XS.aloadN X0.here hx rfl (hb hby d5_12) rfl rfl ?_
    show Steps p.tables e below (s₁.setTop (mkF m 13 #[.val (.ref a_WRONG_PREFIX)] [(.ref a_WRONG_PREFIX)])) _
    jvm_step X0.here [X0.here.top, hx, (hb hby d5_13), X0.method', Bd.returns, Value.isRef, FieldType.isReference]
    first | (intro acts; rw [hr _ acts rfl rfl rfl]) | rw [hr _ _ rfl rfl rfl]
    exact Steps.refl _
  · show QP (some (.ref a_WRONG_PREFIX)) h0 n0 _ s₁.heap _
    rw [e0]
    exact ⟨rfl, N0, rfl⟩
def Q6_76 (Z : State) (c0_a : Addr) (a_WRONG_PREFIX : Addr) (h0 : Heap) (n0 : Nat) (v : Option Value) (h : Heap) (L : List Loc) : Prop := v = none ∧ Fr n0 L ∧ Keep h0 h [c0_a] ∧ F_0 Z h c0_a (.ref a_WRONG_PREFIX)
set_option maxRecDepth 65536 in
set_option maxHeartbeats 40000000 in
theorem rm6_75 (l : Launch) (Z : State) (a0 : Array Value) (hw : ∀ d ∈ tables_1, d.before a0 Z = true) (ws : List Jvm.Cond) (c0_a : Addr) (a_WRONG_PREFIX : Addr) (h0 : Heap) (n0 : Nat) (Z0 : n0 ≤ h0.size) (f1 : F_0 Z h0 c0_a .null) (f2 : E_1 Z h0 c0_a) (f3 : n0 ≤ c0_a) :
    MetFree l M_3 (head1 (Jvm.Cond.code M_3 jdk_32_method_2_code 2 none :: ws) R_1_0_0_12) (fun a U => a = #[(.ref c0_a), (.ref a_WRONG_PREFIX)] ∧ Z.Warmed39 U.vm ∧ U.heap = h0) (fun _ _ _ _ _ => True) (fun _ U o U' => ∃ v L, o = .returned v ∧ Q6_76 Z c0_a a_WRONG_PREFIX h0 n0 v U'.heap L ∧ FrameEnd U o U' L R_1_0_0_12.cells R_1_0_0_12.slots) := by
  refine MetFree.of_bodySF (plainFor_of_name pn_java_util_Optional) hisR ?_
  intro p e s m args below meth c s₁ Bd hml0 hP hK
  obtain ⟨rfl, hZ, hh⟩ := hP
  have hx := Bd.exec
  have hby := Bd.bytes
  have hml : c.maxLocals = 2 := hml0
  have hown : s.vm.findClass "java/util/Optional" = some m.cls := findClass_of_methodNamed Bd.named
  have hnm := (name_of_methodNamed Bd.named Bd.method).1
  have X0 : Stand p l e R_1_0_0_12 s m #[(.ref c0_a), (.ref a_WRONG_PREFIX)] below meth c s₁ [] 0 0 := Stand.of_body Bd
  have e0 : s₁.heap = h0 := by rw [← hh, Bd.state]; rfl
  have N0 := Fr.nil n0
  obtain ⟨T1, X1, e1, st1⟩ := initO X0 hx hZ hown (tw_31 hw) (tw_32 hw) (tw_33 hw) e0 (g := (mkF m 1 #[.val (.ref c0_a), .val (.ref a_WRONG_PREFIX)] [(.ref c0_a)])) rfl (by rw [hml]; rfl) rfl (hb hby d6_1) (by decide) (W := 0) (by show 2 * 0 + _ ≤ _; exact Nat.le_of_eq rfl) (by decide)
  obtain ⟨T2, h2, X2, e2, W2, st2⟩ := putF X1 hx hZ hown (host := "") (Or.inl (tw_34 hw)) Via.refl e1 f1 f2 (Or.inr ⟨(tw_35 hw), rfl, hnm⟩) (tw_22 hw) (ty := (.object "java/lang/Object")) (by decide) rfl rfl (g := (mkF m 6 #[.val (.ref c0_a), .val (.ref a_WRONG_PREFIX)] [(.ref a_WRONG_PREFIX), (.ref c0_a)])) rfl rfl (hb hby d6_6)
  have Fw2 : F_0 Z h2 c0_a (.ref a_WRONG_PREFIX) := Fld.same W2 f1
  have KK2 : Keep h0 h2 [c0_a] := (Keep.refl h0 [c0_a]).wr W2 (Or.inl (List.mem_of_getElem? (i := 0) rfl))
  have N2 := Fr.snoc X2 N0 f3
  obtain ⟨fs, hr, hrun, hended, hW, hsame⟩ := X2.leave (v := none) (fun _ => rfl)
  refine ⟨_, _, castTop (ef6_RR m c0_a a_WRONG_PREFIX) ?_, hrun, hended, _, _, rfl, ?_, ⟨_, rfl⟩, hW, hsame.mono (by decide) (by decide)⟩
  · show Steps p.tables e below (s₁.setTop (mkF m 0 #[.val (.ref c0_a), .val (.ref a_WRONG_PREFIX)] [])) _
    refine XS.aloadN X0.here hx rfl (hb hby d6_0) rfl rfl ?_
    show Steps p.tables e below (s₁.setTop (mkF m 1 #[.val (.ref c0_a), .val (.ref a_WRONG_PREFIX)] [(.ref c0_a)])) _
    refine st1 _ ?_
    refine XS.aloadN X1.here hx rfl (hb hby d6_4) rfl rfl ?_
    refine XS.aloadN X1.here hx rfl (hb hby d6_5) rfl rfl ?_
    show Steps p.tables e below (T1.setTop (mkF m 6 #[.val (.ref c0_a), .val (.ref a_WRONG_PREFIX)] [(.ref a_WRONG_PREFIX), (.ref c0_a)])) _
    refine st2 _ ?_
    show Steps p.tables e below (T2.setTop (mkF m 9 #[.val (.ref c0_a), .val (.ref a_WRONG_PREFIX)] [])) _
    exact X2.returnOut hx Bd.returns (hb hby d6_9) hr
  · show Q6_76 Z c0_a a_WRONG_PREFIX h0 n0 _ T2.heap _
    rw [e2]
    exact ⟨rfl, N2, KK2, Fw2⟩
def Q4_78 (Z : State) (a_WRONG_PREFIX : Addr) (h0 : Heap) (n0 : Nat) (v : Option Value) (h : Heap) (L : List Loc) : Prop := ∃ (b73 : Addr), v = (some (.ref b73)) ∧ Fr n0 L ∧ Keep h0 h [] ∧ h0.size ≤ b73 ∧ E_1 Z h b73 ∧ F_0 Z h b73 (.ref a_WRONG_PREFIX)
set_option maxRecDepth 65536 in
set_option maxHeartbeats 40000000 in
theorem rm4_77 (l : Launch) (Z : State) (a0 : Array Value) (hw : ∀ d ∈ tables_1, d.before a0 Z = true) (ws : List Jvm.Cond) (a_WRONG_PREFIX : Addr) (h0 : Heap) (n0 : Nat) (Z0 : n0 ≤ h0.size) :
    MetFree l M_4 (head1 (Jvm.Cond.code M_4 jdk_32_method_3_code 1 (some (.object "java/util/Optional")) :: ws) R_2_1_1_26) (fun a U => a = #[(.ref a_WRONG_PREFIX)] ∧ Z.Warmed39 U.vm ∧ U.heap = h0) (fun _ _ _ _ _ => True) (fun _ U o U' => ∃ v L, o = .returned v ∧ Q4_78 Z a_WRONG_PREFIX h0 n0 v U'.heap L ∧ FrameEnd U o U' L R_2_1_1_26.cells R_2_1_1_26.slots) := by
  refine MetFree.of_bodySF (plainFor_of_name pn_java_util_Optional) hisR ?_
  intro p e s m args below meth c s₁ Bd hml0 hP hK
  obtain ⟨rfl, hZ, hh⟩ := hP
  have hx := Bd.exec
  have hby := Bd.bytes
  have hml : c.maxLocals = 1 := hml0
  have hown : s.vm.findClass "java/util/Optional" = some m.cls := findClass_of_methodNamed Bd.named
  have hnm := (name_of_methodNamed Bd.named Bd.method).1
  have X0 : Stand p l e R_2_1_1_26 s m #[(.ref a_WRONG_PREFIX)] below meth c s₁ [] 0 0 := Stand.of_body Bd
  have e0 : s₁.heap = h0 := by rw [← hh, Bd.state]; rfl
  have N0 := Fr.nil n0
  obtain ⟨T1, h1, X1, e1, E1, A1, D1, -, st1⟩ := newO X0 hx hZ hown (tw_21 hw) (tw_22 hw) (tw_15 hw) e0 (g := (mkF m 0 #[.val (.ref a_WRONG_PREFIX)] [])) rfl (hb hby d4_0) (by decide) (by decide)
  obtain ⟨b73, g1⟩ : ∃ z, z = h0.size := ⟨_, rfl⟩
  rw [← g1] at A1 D1 st1
  have sz_b73 : h0.size ≤ b73 := Nat.le_trans (Nat.le_refl _) (Nat.le_of_eq g1.symm)
  have g_b73 : n0 ≤ b73 := Nat.le_trans Z0 sz_b73
  have KK1 : Keep h0 h1 [] := (Keep.refl h0 []).ext E1
  have F1_35 : F_0 Z h1 b73 .null := D1 (Or.inr (tw_35 hw)) (ty := (.object "java/lang/Object")) (by decide)
  -- pc 5: java/util/Objects.requireNonNull
  obtain ⟨_, _, ⟨T2, L2, k2, n2⟩, -, X2, ⟨Lc2, hQ2, l2, y2, z2⟩, st2⟩ := Jvm.LawKit.callS X1 hx (y := M_2) hown (mvT hZ (tw_23 hw)) (mvT hZ (tw_24 hw)) (mvT hZ (tw_25 hw)) (mvT hZ (tw_26 hw)) (by decide) (backOf (W := 2) (rm5_74 l Z a0 hw [] a_WRONG_PREFIX h1 n0 (Nat.le_trans Z0 KK1.1) ) hZ (tw_26 hw) (tw_25 hw) (by decide) (by decide)) (g := (mkF m 5 #[.val (.ref a_WRONG_PREFIX)] [(.ref a_WRONG_PREFIX), (.ref b73), (.ref b73)])) rfl (by rw [hml]; rfl) (argsL := [(.ref a_WRONG_PREFIX)]) (rest := [(.ref b73), (.ref b73)]) (lenOf pd_2 rfl) rfl (by show 2 * 0 + _ ≤ _; exact Nat.le_of_eq rfl) (hb hby d4_5) (fun _ _ => ⟨rfl, e1, (by decide : 1 + 0 ≤ _), (by decide : 1 + 0 ≤ _)⟩)
  dsimp only [Pt.U, Pt.locs, Pt.cells, Pt.slots] at X2 l2 y2 z2 st2 hQ2
  subst l2 y2 z2
  obtain ⟨rfl, Nq2, e2⟩ := hQ2
  have N2 := Fr.app N0 Nq2
  -- pc 8: java/util/Optional.<init>
  obtain ⟨_, _, ⟨T3, L3, k3, n3⟩, -, X3, ⟨Lc3, hQ3, l3, y3, z3⟩, st3⟩ := X2.specialBack hx (y := M_3) rfl hown (mvT hZ (tw_27 hw)) (mvT hZ (tw_28 hw)) (mvT hZ (tw_30 hw)) (by decide) (backOf (W := 1) (rm6_75 l Z a0 hw [] b73 a_WRONG_PREFIX h1 n0 (Nat.le_trans Z0 KK1.1) F1_35 A1 g_b73) hZ (tw_30 hw) (tw_15 hw) (by decide) (by decide)) (g := (mkF m 8 #[.val (.ref a_WRONG_PREFIX)] [(.ref a_WRONG_PREFIX), (.ref b73), (.ref b73)])) rfl (by rw [hml]; rfl) (Steps.refl _) (a := b73) (argsL := [(.ref a_WRONG_PREFIX)]) (rest := [(.ref b73)]) (lenOf pd_3 rfl) rfl (by show 2 * 0 + _ ≤ _; exact Nat.le_of_eq rfl) (hb hby d4_8) (fun _ _ => ⟨rfl, e2, (by decide : 1 + 0 ≤ _), (by decide : 1 + 0 ≤ _)⟩)
  dsimp only [Pt.U, Pt.locs, Pt.cells, Pt.slots] at X3 l3 y3 z3 st3 hQ3
  subst l3 y3 z3
  obtain ⟨rfl, Nq3, K3, o3_0⟩ := hQ3
  have N3 := Fr.app N2 Nq3
  have KK3 : Keep h0 T3.heap [] := KK1.trans K3 (fun x hx => (List.mem_cons.mp hx).elim (fun q => q ▸ (Or.inr sz_b73)) (fun hx => nomatch hx))
  have u4 : E_1 Z T3.heap b73 := Exa.keep A1 K3
  obtain ⟨fs, hr, hrun, hended, hW, hsame⟩ := X3.leave (v := (some (.ref b73))) (fun h => by rw [Bd.returns] at h; cases h)
  refine ⟨_, _, castTop (ef4_R m a_WRONG_PREFIX) ?_, hrun, hended, _, _, rfl, ?_, ⟨_, rfl⟩, hW, hsame.mono (by decide) (by decide)⟩
  · show Steps p.tables e below (s₁.setTop (mkF m 0 #[.val (.ref a_WRONG_PREFIX)] [])) _
    refine st1 _ ?_
    refine XS.dup X1.here hx rfl (hb hby d4_3) rfl rfl ?_
    refine XS.aloadN X1.here hx rfl (hb hby d4_4) rfl rfl ?_
    show Steps p.tables e below (T1.setTop (mkF m 5 #[.val (.ref a_WRONG_PREFIX)] [(.ref a_WRONG_PREFIX), (.ref b73), (.ref b73)])) _
    refine st2 _ ?_
    show Steps p.tables e below (T2.setTop (mkF m 8 #[.val (.ref a_WRONG_PREFIX)] [(.ref a_WRONG_PREFIX), (.ref b73), (.ref b73)])) _
    refine st3.trans ?_
    show Steps p.tables e below (T3.setTop (mkF m 11 #[.val (.ref a_WRONG_PREFIX)] [(.ref b73)])) _
    jvm_step X3.here [X3.here.top, hx, (hb hby d4_11), X3.method', Bd.returns, Value.isRef, FieldType.isReference]
    first | (intro acts; rw [hr _ acts rfl rfl rfl]) | rw [hr _ _ rfl rfl rfl]
    exact Steps.refl _
  · show Q4_78 Z a_WRONG_PREFIX h0 n0 _ T3.heap _
    exact ⟨b73, rfl, N3, KK3, sz_b73, u4, o3_0⟩
def Q2_81 (Z : State) (p0 : Int32) (a_EMPTY : Addr) (a_WRONG_PREFIX : Addr) (h0 : Heap) (n0 : Nat) (v : Option Value) (h : Heap) (L : List Loc) : Prop := ∃ (b72 : Addr) (b79 : Addr), v = (some (.ref b72)) ∧ Fr n0 L ∧ Keep h0 h [] ∧ h0.size ≤ b72 ∧ h0.size ≤ b79 ∧ E_2 Z h b72 ∧ F_1 Z h b72 (.int p0) ∧ F_2 Z h b72 (.ref a_EMPTY) ∧ F_3 Z h b72 (.ref b79) ∧ E_1 Z h b79 ∧ F_0 Z h b79 (.ref a_WRONG_PREFIX) ∧ b72 ≠ b79
set_option maxRecDepth 65536 in
set_option maxHeartbeats 40000000 in
theorem rm2_80 (l : Launch) (Z : State) (a0 : Array Value) (hw : ∀ d ∈ tables_1, d.before a0 Z = true) (ws : List Jvm.Cond) (p0 : Int32) (a_WRONG_PREFIX : Addr) (a_EMPTY : Addr) (h0 : Heap) (n0 : Nat) (Z0 : n0 ≤ h0.size) (f1 : S_8 Z h0 (.ref a_EMPTY)) :
    MetFree l M_7 (head1 (Jvm.Cond.code M_7 prog_3_method_3_code 2 (some (.object "com/example/corestone/corestone/BulkRequest$Line")) :: ws) R_3_2_4_42) (fun a U => a = #[(.int p0), (.ref a_WRONG_PREFIX)] ∧ Z.Warmed39 U.vm ∧ U.heap = h0) (fun _ _ _ _ _ => True) (fun _ U o U' => ∃ v L, o = .returned v ∧ Q2_81 Z p0 a_EMPTY a_WRONG_PREFIX h0 n0 v U'.heap L ∧ FrameEnd U o U' L R_3_2_4_42.cells R_3_2_4_42.slots) := by
  refine MetFree.of_bodySF (plainFor_of_name pn_com_example_corestone_corestone_BulkRequest_Line) hisR ?_
  intro p e s m args below meth c s₁ Bd hml0 hP hK
  obtain ⟨rfl, hZ, hh⟩ := hP
  have hx := Bd.exec
  have hby := Bd.bytes
  have hml : c.maxLocals = 2 := hml0
  have hown : s.vm.findClass "com/example/corestone/corestone/BulkRequest$Line" = some m.cls := findClass_of_methodNamed Bd.named
  have hnm := (name_of_methodNamed Bd.named Bd.method).1
  have X0 : Stand p l e R_3_2_4_42 s m #[(.int p0), (.ref a_WRONG_PREFIX)] below meth c s₁ [] 0 0 := Stand.of_body Bd
  have e0 : s₁.heap = h0 := by rw [← hh, Bd.state]; rfl
  have N0 := Fr.nil n0
  obtain ⟨T1, h1, X1, e1, E1, A1, D1, -, st1⟩ := newO X0 hx hZ hown (tw_11 hw) (tw_12 hw) (tw_9 hw) e0 (g := (mkF m 0 #[.val (.int p0), .val (.ref a_WRONG_PREFIX)] [])) rfl (hb hby d2_0) (by decide) (by decide)
  obtain ⟨b72, g1⟩ : ∃ z, z = h0.size := ⟨_, rfl⟩
  rw [← g1] at A1 D1 st1
  have sz_b72 : h0.size ≤ b72 := Nat.le_trans (Nat.le_refl _) (Nat.le_of_eq g1.symm)
  have g_b72 : n0 ≤ b72 := Nat.le_trans Z0 sz_b72
  have KK1 : Keep h0 h1 [] := (Keep.refl h0 []).ext E1
  have F1_46 : F_1 Z h1 b72 (.int 0) := D1 (Or.inr (tw_46 hw)) (ty := .int) (by decide)
  have F1_48 : F_2 Z h1 b72 .null := D1 (Or.inr (tw_48 hw)) (ty := (.object "java/util/Optional")) (by decide)
  have F1_50 : F_3 Z h1 b72 .null := D1 (Or.inr (tw_50 hw)) (ty := (.object "java/util/Optional")) (by decide)
  -- pc 5: java/util/Optional.empty
  have u2 : S_8 Z h1 (.ref a_EMPTY) := Sta.ext E1 f1
  obtain ⟨_, _, ⟨T3, L3, k3, n3⟩, -, X3, ⟨Lc3, hQ3, l3, y3, z3⟩, st3⟩ := Jvm.LawKit.callS X1 hx (y := M_1) hown (mvT hZ (tw_13 hw)) (mvT hZ (tw_14 hw)) (mvT hZ (tw_15 hw)) (mvT hZ (tw_16 hw)) (by decide) (backOf (W := 3) (rm3_17 l Z a0 hw [] a_EMPTY h1 n0 (Nat.le_trans Z0 KK1.1) u2) hZ (tw_16 hw) (tw_15 hw) (by decide) (by decide)) (g := (mkF m 5 #[.val (.int p0), .val (.ref a_WRONG_PREFIX)] [(.int p0), (.ref b72), (.ref b72)])) rfl (by rw [hml]; rfl) (argsL := []) (rest := [(.int p0), (.ref b72), (.ref b72)]) (lenOf pd_1 rfl) rfl (by show 2 * 0 + _ ≤ _; exact Nat.le_of_eq rfl) (hb hby d2_5) (fun _ _ => ⟨rfl, e1, (by decide : 1 + 0 ≤ _), (by decide : 3 + 0 ≤ _)⟩)
  dsimp only [Pt.U, Pt.locs, Pt.cells, Pt.slots] at X3 l3 y3 z3 st3 hQ3
  subst l3 y3 z3
  obtain ⟨rfl, Nq3, e3⟩ := hQ3
  have N3 := Fr.app N0 Nq3
  -- pc 9: java/util/Optional.of
  obtain ⟨_, _, ⟨T4, L4, k4, n4⟩, -, X4, ⟨Lc4, hQ4, l4, y4, z4⟩, st4⟩ := Jvm.LawKit.callS X3 hx (y := M_4) hown (mvT hZ (tw_18 hw)) (mvT hZ (tw_19 hw)) (mvT hZ (tw_15 hw)) (mvT hZ (tw_20 hw)) (by decide) (backOf (W := 4) (rm4_77 l Z a0 hw [] a_WRONG_PREFIX h1 n0 (Nat.le_trans Z0 KK1.1) ) hZ (tw_20 hw) (tw_15 hw) (by decide) (by decide)) (g := (mkF m 9 #[.val (.int p0), .val (.ref a_WRONG_PREFIX)] [(.ref a_WRONG_PREFIX), (.ref a_EMPTY), (.int p0), (.ref b72), (.ref b72)])) rfl (by rw [hml]; rfl) (argsL := [(.ref a_WRONG_PREFIX)]) (rest := [(.ref a_EMPTY), (.int p0), (.ref b72), (.ref b72)]) (lenOf pd_4 rfl) rfl (by show 2 * 0 + _ ≤ _; exact Nat.le_of_eq rfl) (hb hby d2_9) (fun _ _ => ⟨rfl, e3, (by decide : 1 + 1 ≤ _), (by decide : 3 + 1 ≤ _)⟩)
  dsimp only [Pt.U, Pt.locs, Pt.cells, Pt.slots] at X4 l4 y4 z4 st4 hQ4
  subst l4 y4 z4
  obtain ⟨b79, rfl, Nq4, K4, le_b79, o4_0, o4_1⟩ := hQ4
  have N4 := Fr.app N3 Nq4
  have sz_b79 : h0.size ≤ b79 := Nat.le_trans KK1.1 le_b79
  have g_b79 : n0 ≤ b79 := Nat.le_trans Z0 sz_b79
  have KK4 : Keep h0 T4.heap [] := KK1.trans K4 (fun x hx => nomatch hx)
  -- pc 12: com/example/corestone/corestone/BulkRequest$Line.<init>
  have u5 : F_1 Z T4.heap b72 (.int 0) := Fld.keep F1_46 K4 List.not_mem_nil
  have u6 : E_2 Z T4.heap b72 := Exa.keep A1 K4
  have u7 : F_2 Z T4.heap b72 .null := Fld.keep F1_48 K4 List.not_mem_nil
  have u8 : F_3 Z T4.heap b72 .null := Fld.keep F1_50 K4 List.not_mem_nil
  obtain ⟨_, _, ⟨T9, L9, k9, n9⟩, -, X9, ⟨Lc9, hQ9, l9, y9, z9⟩, st9⟩ := X4.specialBack hx (y := M_6) rfl hown (mvT hZ (tw_36 hw)) (mvT hZ (tw_37 hw)) (mvT hZ (tw_38 hw)) (by decide) (backOf (W := 1) (rm8_26 l Z a0 hw [] b72 p0 a_EMPTY b79 T4.heap n0 (Nat.le_trans Z0 KK4.1) u5 u6 g_b72 u7 u8) hZ (tw_38 hw) (tw_9 hw) (by decide) (by decide)) (g := (mkF m 12 #[.val (.int p0), .val (.ref a_WRONG_PREFIX)] [(.ref b79), (.ref a_EMPTY), (.int p0), (.ref b72), (.ref b72)])) rfl (by rw [hml]; rfl) (Steps.refl _) (a := b72) (argsL := [(.int p0), (.ref a_EMPTY), (.ref b79)]) (rest := [(.ref b72)]) (lenOf pd_6 rfl) rfl (by show 2 * 0 + _ ≤ _; exact Nat.le_of_eq rfl) (hb hby d2_12) (fun _ _ => ⟨rfl, rfl, (by decide : 2 + 0 ≤ _), (by decide : 4 + 0 ≤ _)⟩)
  dsimp only [Pt.U, Pt.locs, Pt.cells, Pt.slots] at X9 l9 y9 z9 st9 hQ9
  subst l9 y9 z9
  obtain ⟨rfl, Nq9, K9, o9_0, o9_1, o9_2⟩ := hQ9
  have N9 := Fr.app N4 Nq9
  have KK9 : Keep h0 T9.heap [] := KK4.trans K9 (fun x hx => (List.mem_cons.mp hx).elim (fun q => q ▸ (Or.inr sz_b72)) (fun hx => nomatch hx))
  have u10 : E_2 Z T9.heap b72 := Exa.keep u6 K9
  have u11 : E_1 Z T9.heap b79 := Exa.keep o4_0 K9
  have ne12 : b72 ≠ b79 := Nat.ne_of_lt (Nat.lt_of_lt_of_le (Exa.lt A1) le_b79)
  have u13 : F_0 Z T9.heap b79 (.ref a_WRONG_PREFIX) := Fld.keep o4_1 K9 (own_notin (Ne.symm ne12) List.not_mem_nil)
  obtain ⟨fs, hr, hrun, hended, hW, hsame⟩ := X9.leave (v := (some (.ref b72))) (fun h => by rw [Bd.returns] at h; cases h)
  refine ⟨_, _, castTop (ef2_IR m p0 a_WRONG_PREFIX) ?_, hrun, hended, _, _, rfl, ?_, ⟨_, rfl⟩, hW, hsame.mono (by decide) (by decide)⟩
  · show Steps p.tables e below (s₁.setTop (mkF m 0 #[.val (.int p0), .val (.ref a_WRONG_PREFIX)] [])) _
    refine st1 _ ?_
    refine XS.dup X1.here hx rfl (hb hby d2_3) rfl rfl ?_
    refine XS.iloadN X1.here hx rfl (hb hby d2_4) rfl ?_
    show Steps p.tables e below (T1.setTop (mkF m 5 #[.val (.int p0), .val (.ref a_WRONG_PREFIX)] [(.int p0), (.ref b72), (.ref b72)])) _
    refine st3 _ ?_
    refine XS.aloadN X3.here hx rfl (hb hby d2_8) rfl rfl ?_
    show Steps p.tables e below (T3.setTop (mkF m 9 #[.val (.int p0), .val (.ref a_WRONG_PREFIX)] [(.ref a_WRONG_PREFIX), (.ref a_EMPTY), (.int p0), (.ref b72), (.ref b72)])) _
    refine st4 _ ?_
    show Steps p.tables e below (T4.setTop (mkF m 12 #[.val (.int p0), .val (.ref a_WRONG_PREFIX)] [(.ref b79), (.ref a_EMPTY), (.int p0), (.ref b72), (.ref b72)])) _
    refine st9.trans ?_
    show Steps p.tables e below (T9.setTop (mkF m 15 #[.val (.int p0), .val (.ref a_WRONG_PREFIX)] [(.ref b72)])) _
    jvm_step X9.here [X9.here.top, hx, (hb hby d2_15), X9.method', Bd.returns, Value.isRef, FieldType.isReference]
    first | (intro acts; rw [hr _ acts rfl rfl rfl]) | rw [hr _ _ rfl rfl rfl]
    exact Steps.refl _
  · show Q2_81 Z p0 a_EMPTY a_WRONG_PREFIX h0 n0 _ T9.heap _
    exact ⟨b72, b79, rfl, N9, KK9, sz_b72, sz_b79, u10, o9_0, o9_1, o9_2, u11, u13, ne12⟩
set_option maxRecDepth 65536 in
set_option maxHeartbeats 40000000 in
theorem rm12_84 (l : Launch) (Z : State) (a0 : Array Value) (hw : ∀ d ∈ tables_1, d.before a0 Z = true) (ws : List Jvm.Cond) (c0_a : Addr) (a_WRONG_PREFIX : Addr) (h0 : Heap) (n0 : Nat) (Z0 : n0 ≤ h0.size) (f1 : F_0 Z h0 c0_a (.ref a_WRONG_PREFIX)) :
    MetFree l M_10 (head1 (Jvm.Cond.code M_10 jdk_32_method_6_code 1 (some .boolean) :: ws) R_0_0_0_0) (fun a U => a = #[(.ref c0_a)] ∧ Z.Warmed39 U.vm ∧ U.heap = h0) (fun _ _ _ _ _ => True) (fun _ U o U' => ∃ v L, o = .returned v ∧ QP (some (.int 1)) h0 n0 v U'.heap L ∧ FrameEnd U o U' L R_0_0_0_0.cells R_0_0_0_0.slots) := by
  refine MetFree.of_bodySF (plainFor_of_name pn_java_util_Optional) hisR ?_
  intro p e s m args below meth c s₁ Bd hml0 hP hK
  obtain ⟨rfl, hZ, hh⟩ := hP
  have hx := Bd.exec
  have hby := Bd.bytes
  have hml : c.maxLocals = 1 := hml0
  have hown : s.vm.findClass "java/util/Optional" = some m.cls := findClass_of_methodNamed Bd.named
  have hnm := (name_of_methodNamed Bd.named Bd.method).1
  have X0 : Stand p l e R_0_0_0_0 s m #[(.ref c0_a)] below meth c s₁ [] 0 0 := Stand.of_body Bd
  have e0 : s₁.heap = h0 := by rw [← hh, Bd.state]; rfl
  have N0 := Fr.nil n0
  obtain ⟨T1, X1, e1, st1⟩ := getF X0 hx hZ hown (host := "") (Or.inl (tw_34 hw)) Via.refl e0 f1 (g := (mkF m 1 #[.val (.ref c0_a)] [(.ref c0_a)])) rfl rfl (hb hby d12_1)
  obtain ⟨fs, hr, hrun, hended, hW, hsame⟩ := X1.leave (v := (some (.int 1))) (fun h => by rw [Bd.returns] at h; cases h)
  refine ⟨_, _, castTop (ef12_R m c0_a) ?_, hrun, hended, _, _, rfl, ?_, ⟨_, rfl⟩, hW, hsame.mono (by decide) (by decide)⟩
  · show Steps p.tables e below (s₁.setTop (mkF m 0 #[.val (.ref c0_a)] [])) _
    refine XS.aloadN X0.here hx rfl (hb hby d12_0) rfl rfl ?_
    show Steps p.tables e below (s₁.setTop (mkF m 1 #[.val (.ref c0_a)] [(.ref c0_a)])) _
    refine st1 _ ?_
    refine XS.ifnullNo X1.here hx rfl (hb hby d12_4) rfl ?_
    refine XS.iconst X1.here hx rfl (hb hby d12_7) ?_
    refine XS.goto X1.here hx rfl (pc0 := 8) (pc' := 12) rfl (hb hby d12_8) (by decide) (by decide) ?_
    show Steps p.tables e below (T1.setTop (mkF m 12 #[.val (.ref c0_a)] [(.int 1)])) _
    exact retN X1 hx (t := .boolean) Bd.returns (by simp) (hb hby d12_12) hr
  · show QP (some (.int 1)) h0 n0 _ T1.heap _
    rw [e1]
    exact ⟨rfl, N0, rfl⟩
set_option maxRecDepth 65536 in
set_option maxHeartbeats 40000000 in
theorem rm14_85 (l : Launch) (Z : State) (a0 : Array Value) (hw : ∀ d ∈ tables_1, d.before a0 Z = true) (ws : List Jvm.Cond) (c0_a : Addr) (a_WRONG_PREFIX : Addr) (h0 : Heap) (n0 : Nat) (Z0 : n0 ≤ h0.size) (f1 : F_0 Z h0 c0_a (.ref a_WRONG_PREFIX)) :
    MetFree l M_12 (head1 (Jvm.Cond.code M_12 jdk_32_method_5_code 1 (some (.object "java/lang/Object")) :: ws) R_0_0_0_0) (fun a U => a = #[(.ref c0_a)] ∧ Z.Warmed39 U.vm ∧ U.heap = h0) (fun _ _ _ _ _ => True) (fun _ U o U' => ∃ v L, o = .returned v ∧ QP (some (.ref a_WRONG_PREFIX)) h0 n0 v U'.heap L ∧ FrameEnd U o U' L R_0_0_0_0.cells R_0_0_0_0.slots) := by
  refine MetFree.of_bodySF (plainFor_of_name pn_java_util_Optional) hisR ?_
  intro p e s m args below meth c s₁ Bd hml0 hP hK
  obtain ⟨rfl, hZ, hh⟩ := hP
  have hx := Bd.exec
  have hby := Bd.bytes
  have hml : c.maxLocals = 1 := hml0
  have hown : s.vm.findClass "java/util/Optional" = some m.cls := findClass_of_methodNamed Bd.named
  have hnm := (name_of_methodNamed Bd.named Bd.method).1
  have X0 : Stand p l e R_0_0_0_0 s m #[(.ref c0_a)] below meth c s₁ [] 0 0 := Stand.of_body Bd
  have e0 : s₁.heap = h0 := by rw [← hh, Bd.state]; rfl
  have N0 := Fr.nil n0
  obtain ⟨T1, X1, e1, st1⟩ := getF X0 hx hZ hown (host := "") (Or.inl (tw_34 hw)) Via.refl e0 f1 (g := (mkF m 1 #[.val (.ref c0_a)] [(.ref c0_a)])) rfl rfl (hb hby d14_1)
  obtain ⟨T2, X2, e2, st2⟩ := getF X1 hx hZ hown (host := "") (Or.inl (tw_34 hw)) Via.refl e1 f1 (g := (mkF m 18 #[.val (.ref c0_a)] [(.ref c0_a)])) rfl rfl (hb hby d14_18)
  obtain ⟨fs, hr, hrun, hended, hW, hsame⟩ := X2.leave (v := (some (.ref a_WRONG_PREFIX))) (fun h => by rw [Bd.returns] at h; cases h)
  refine ⟨_, _, castTop (ef14_R m c0_a) ?_, hrun, hended, _, _, rfl, ?_, ⟨_, rfl⟩, hW, hsame.mono (by decide) (by decide)⟩
  · show Steps p.tables e below (s₁.setTop (mkF m 0 #[.val (.ref c0_a)] [])) _
    refine XS.aloadN X0.here hx rfl (hb hby d14_0) rfl rfl ?_
    show Steps p.tables e below (s₁.setTop (mkF m 1 #[.val (.ref c0_a)] [(.ref c0_a)])) _
    refine st1 _ ?_
    refine XS.ifnonnullYes X1.here hx rfl (pc0 := 4) (pc' := 17) rfl (hb hby d14_4) rfl (by decide) (by decide) ?_
    refine XS.aloadN X1.here hx rfl (hb hby d14_17) rfl rfl ?_
    show Steps p.tables e below (T1.setTop (mkF m 18 #[.val (.ref c0_a)] [(.ref c0_a)])) _
    refine st2 _ ?_
    show Steps p.tables e below (T2.setTop (mkF m 21 #[.val (.ref c0_a)] [(.ref a_WRONG_PREFIX)])) _
    jvm_step X2.here [X2.here.top, hx, (hb hby d14_21), X2.method', Bd.returns, Value.isRef, FieldType.isReference]
    first | (intro acts; rw [hr _ acts rfl rfl rfl]) | rw [hr _ _ rfl rfl rfl]
    exact Steps.refl _
  · show QP (some (.ref a_WRONG_PREFIX)) h0 n0 _ T2.heap _
    rw [e2]
    exact ⟨rfl, N0, rfl⟩
set_option maxRecDepth 65536 in
set_option maxHeartbeats 40000000 in
theorem rm0_86 (l : Launch) (Z : State) (a0 : Array Value) (hw : ∀ d ∈ tables_1, d.before a0 Z = true) (ws : List Jvm.Cond) (p0 : Int32) (p1 : Int32) (a_WRONG_PREFIX : Addr) (a_EMPTY : Addr) (h0 : Heap) (n0 : Nat) (Z0 : n0 ≤ h0.size) (f1 : (p1 &&& (7 : Int32)) = (3 : Int32)) (f2 : S_0 Z h0 (.ref a_WRONG_PREFIX)) (f3 : S_8 Z h0 (.ref a_EMPTY)) (f4 : F_0 Z h0 a_EMPTY .null) (f5 : E_1 Z h0 a_EMPTY) :
    MetFree l x (head1 (Jvm.Cond.code x code maxLocals ret :: ws) room_1) (fun a U => a = #[(.int p0), (.int p1)] ∧ Z.Warmed39 U.vm ∧ U.heap = h0) (fun _ _ _ _ _ => True) (fun _ U o U' => ∃ v L, o = .returned v ∧ QT n0 v U'.heap L ∧ FrameEnd U o U' L room_1.cells room_1.slots) := by
  refine MetFree.of_bodySF (plainFor_of_name pn_com_example_corestone_corestone_LineRefusedPinLaw) hisR ?_
  intro p e s m args below meth c s₁ Bd hml0 hP hK
  obtain ⟨rfl, hZ, hh⟩ := hP
  have hx := Bd.exec
  have hby := Bd.bytes
  have hml : c.maxLocals = 4 := hml0
  have hown : s.vm.findClass "com/example/corestone/corestone/LineRefusedPinLaw" = some m.cls := findClass_of_methodNamed Bd.named
  have hnm := (name_of_methodNamed Bd.named Bd.method).1
  have X0 : Stand p l e room_1 s m #[(.int p0), (.int p1)] below meth c s₁ [] 0 0 := Stand.of_body Bd
  have e0 : s₁.heap = h0 := by rw [← hh, Bd.state]; rfl
  have N0 := Fr.nil n0
  -- pc 1: com/example/corestone/corestone/LineRefusedPinLaw.pick
  obtain ⟨_, _, ⟨T1, L1, k1, n1⟩, -, X1, ⟨Lc1, hQ1, l1, y1, z1⟩, st1⟩ := Jvm.LawKit.callS X0 hx (y := M_0) hown (mvT hZ (tw_0 hw)) (mvT hZ (tw_1 hw)) (mvT hZ (tw_2 hw)) (mvT hZ (tw_3 hw)) (by decide) (backOf (W := 0) (rm1_71 l Z a0 hw [] p1 a_WRONG_PREFIX h0 n0 Z0 f1 f2) hZ (tw_3 hw) (tw_2 hw) (by decide) (by decide)) (g := (mkF m 1 #[.val (.int p0), .val (.int p1), .unset, .unset] [(.int p1)])) rfl (by rw [hml]; rfl) (argsL := [(.int p1)]) (rest := []) (lenOf pd_0 rfl) rfl (by show 2 * 0 + _ ≤ _; exact Nat.le_of_eq rfl) (hb hby at_1) (fun _ _ => ⟨rfl, e0, (by decide : 0 + 0 ≤ _), (by decide : 0 + 0 ≤ _)⟩)
  dsimp only [Pt.U, Pt.locs, Pt.cells, Pt.slots] at X1 l1 y1 z1 st1 hQ1
  subst l1 y1 z1
  obtain ⟨rfl, Nq1, e1⟩ := hQ1
  have N1 := Fr.app N0 Nq1
  -- pc 7: com/example/corestone/corestone/BulkRequest$Line.refused
  obtain ⟨_, _, ⟨T2, L2, k2, n2⟩, -, X2, ⟨Lc2, hQ2, l2, y2, z2⟩, st2⟩ := Jvm.LawKit.callS X1 hx (y := M_7) hown (mvT hZ (tw_7 hw)) (mvT hZ (tw_8 hw)) (mvT hZ (tw_9 hw)) (mvT hZ (tw_10 hw)) (by decide) (backOf (W := 0) (rm2_80 l Z a0 hw [] p0 a_WRONG_PREFIX a_EMPTY h0 n0 Z0 f3) hZ (tw_10 hw) (tw_9 hw) (by decide) (by decide)) (g := (mkF m 7 #[.val (.int p0), .val (.int p1), .val (.ref a_WRONG_PREFIX), .unset] [(.ref a_WRONG_PREFIX), (.int p0)])) rfl (by rw [hml]; rfl) (argsL := [(.int p0), (.ref a_WRONG_PREFIX)]) (rest := []) (lenOf pd_7 rfl) rfl (by show 2 * 0 + _ ≤ _; exact Nat.le_of_eq rfl) (hb hby at_7) (fun _ _ => ⟨rfl, e1, (by decide : 0 + 2 ≤ _), (by decide : 0 + 4 ≤ _)⟩)
  dsimp only [Pt.U, Pt.locs, Pt.cells, Pt.slots] at X2 l2 y2 z2 st2 hQ2
  subst l2 y2 z2
  obtain ⟨b82, b83, rfl, Nq2, K2, le_b82, le_b83, o2_0, o2_1, o2_2, o2_3, o2_4, o2_5, o2_6⟩ := hQ2
  have N2 := Fr.app N1 Nq2
  have sz_b82 : h0.size ≤ b82 := Nat.le_trans (Nat.le_refl _) le_b82
  have g_b82 : n0 ≤ b82 := Nat.le_trans Z0 sz_b82
  have sz_b83 : h0.size ≤ b83 := Nat.le_trans (Nat.le_refl _) le_b83
  have g_b83 : n0 ≤ b83 := Nat.le_trans Z0 sz_b83
  have KK2 : Keep h0 T2.heap [] := (Keep.refl h0 []).trans K2 (fun x hx => nomatch hx)
  -- pc 18: com/example/corestone/corestone/BulkRequest$Line.number
  obtain ⟨cq3, kq3, q3a, q3b, q3c⟩ := isOf hZ rfl o2_0
  obtain ⟨_, _, ⟨T3, L3, k3, n3⟩, -, X3, ⟨Lc3, hQ3, l3, y3, z3⟩, st3⟩ := X2.virtualBack hx (y := M_8) (z := M_8) hown (mvT hZ (tw_51 hw)) (mvT hZ (tw_52 hw)) (notFace_of_selects (args := #[]) (mvT hZ (tw_54 hw))) (mvT hZ (tw_54 hw)) (mvT hZ (tw_53 hw)) (by decide) (backOf (W := 0) (rm10_32 l Z a0 hw [] b82 p0 T2.heap n0 (Nat.le_trans Z0 KK2.1) o2_1) hZ (tw_55 hw) (tw_9 hw) (by decide) (by decide)) q3a q3c (g := (mkF m 18 #[.val (.int p0), .val (.int p1), .val (.ref a_WRONG_PREFIX), .val (.ref b82)] [(.ref b82)])) rfl (by rw [hml]; rfl) (Steps.refl _) (argsL := []) (rest := []) (lenOf pd_8 rfl) rfl (by show 2 * 0 + _ ≤ _; exact Nat.le_of_eq rfl) (hb hby at_18) (fun _ _ => ⟨rfl, rfl, (by decide : 2 + 0 ≤ _), (by decide : 4 + 0 ≤ _)⟩)
  dsimp only [Pt.U, Pt.locs, Pt.cells, Pt.slots] at X3 l3 y3 z3 st3 hQ3
  subst l3 y3 z3
  obtain ⟨rfl, Nq3, e3⟩ := hQ3
  have N3 := Fr.app N2 Nq3
  -- pc 28: com/example/corestone/corestone/BulkRequest$Line.handle
  obtain ⟨cq4, kq4, q4a, q4b, q4c⟩ := isOf hZ e3 o2_0
  obtain ⟨_, _, ⟨T4, L4, k4, n4⟩, -, X4, ⟨Lc4, hQ4, l4, y4, z4⟩, st4⟩ := X3.virtualBack hx (y := M_9) (z := M_9) hown (mvT hZ (tw_56 hw)) (mvT hZ (tw_57 hw)) (notFace_of_selects (args := #[]) (mvT hZ (tw_59 hw))) (mvT hZ (tw_59 hw)) (mvT hZ (tw_58 hw)) (by decide) (backOf (W := 0) (rm11_33 l Z a0 hw [] b82 a_EMPTY T2.heap n0 (Nat.le_trans Z0 KK2.1) o2_2) hZ (tw_60 hw) (tw_9 hw) (by decide) (by decide)) q4a q4c (g := (mkF m 28 #[.val (.int p0), .val (.int p1), .val (.ref a_WRONG_PREFIX), .val (.ref b82)] [(.ref b82)])) rfl (by rw [hml]; rfl) (Steps.refl _) (argsL := []) (rest := []) (lenOf pd_1 rfl) rfl (by show 2 * 0 + _ ≤ _; exact Nat.le_of_eq rfl) (hb hby at_28) (fun _ _ => ⟨rfl, e3, (by decide : 2 + 0 ≤ _), (by decide : 4 + 0 ≤ _)⟩)
  dsimp only [Pt.U, Pt.locs, Pt.cells, Pt.slots] at X4 l4 y4 z4 st4 hQ4
  subst l4 y4 z4
  obtain ⟨rfl, Nq4, e4⟩ := hQ4
  have N4 := Fr.app N3 Nq4
  -- pc 35: com/example/corestone/corestone/BulkRequest$Line.handle
  obtain ⟨cq5, kq5, q5a, q5b, q5c⟩ := isOf hZ e4 o2_0
  obtain ⟨_, _, ⟨T5, L5, k5, n5⟩, -, X5, ⟨Lc5, hQ5, l5, y5, z5⟩, st5⟩ := X4.virtualBack hx (y := M_9) (z := M_9) hown (mvT hZ (tw_56 hw)) (mvT hZ (tw_57 hw)) (notFace_of_selects (args := #[]) (mvT hZ (tw_59 hw))) (mvT hZ (tw_59 hw)) (mvT hZ (tw_58 hw)) (by decide) (backOf (W := 0) (rm11_33 l Z a0 hw [] b82 a_EMPTY T2.heap n0 (Nat.le_trans Z0 KK2.1) o2_2) hZ (tw_60 hw) (tw_9 hw) (by decide) (by decide)) q5a q5c (g := (mkF m 35 #[.val (.int p0), .val (.int p1), .val (.ref a_WRONG_PREFIX), .val (.ref b82)] [(.ref b82)])) rfl (by rw [hml]; rfl) (Steps.refl _) (argsL := []) (rest := []) (lenOf pd_1 rfl) rfl (by show 2 * 0 + _ ≤ _; exact Nat.le_of_eq rfl) (hb hby at_35) (fun _ _ => ⟨rfl, e4, (by decide : 2 + 0 ≤ _), (by decide : 4 + 0 ≤ _)⟩)
  dsimp only [Pt.U, Pt.locs, Pt.cells, Pt.slots] at X5 l5 y5 z5 st5 hQ5
  subst l5 y5 z5
  obtain ⟨rfl, Nq5, e5⟩ := hQ5
  have N5 := Fr.app N4 Nq5
  -- pc 38: java/util/Optional.isPresent
  have u6 : F_0 Z T2.heap a_EMPTY .null := Fld.keep f4 K2 List.not_mem_nil
  have u8 : E_1 Z T2.heap a_EMPTY := Exa.keep f5 K2
  obtain ⟨cq7, kq7, q7a, q7b, q7c⟩ := isOf hZ e5 u8
  obtain ⟨_, _, ⟨T7, L7, k7, n7⟩, -, X7, ⟨Lc7, hQ7, l7, y7, z7⟩, st7⟩ := X5.virtualBack hx (y := M_10) (z := M_10) hown (mvT hZ (tw_61 hw)) (mvT hZ (tw_62 hw)) (notFace_of_selects (args := #[]) (mvT hZ (tw_64 hw))) (mvT hZ (tw_64 hw)) (mvT hZ (tw_63 hw)) (by decide) (backOf (W := 0) (rm12_34 l Z a0 hw [] a_EMPTY T2.heap n0 (Nat.le_trans Z0 KK2.1) u6) hZ (tw_65 hw) (tw_15 hw) (by decide) (by decide)) q7a q7c (g := (mkF m 38 #[.val (.int p0), .val (.int p1), .val (.ref a_WRONG_PREFIX), .val (.ref b82)] [(.ref a_EMPTY)])) rfl (by rw [hml]; rfl) (Steps.refl _) (argsL := []) (rest := []) (lenOf pd_9 rfl) rfl (by show 2 * 0 + _ ≤ _; exact Nat.le_of_eq rfl) (hb hby at_38) (fun _ _ => ⟨rfl, e5, (by decide : 2 + 0 ≤ _), (by decide : 4 + 0 ≤ _)⟩)
  dsimp only [Pt.U, Pt.locs, Pt.cells, Pt.slots] at X7 l7 y7 z7 st7 hQ7
  subst l7 y7 z7
  obtain ⟨rfl, Nq7, e7⟩ := hQ7
  have N7 := Fr.app N5 Nq7
  -- pc 47: com/example/corestone/corestone/BulkRequest$Line.refusal
  obtain ⟨cq9, kq9, q9a, q9b, q9c⟩ := isOf hZ e7 o2_0
  obtain ⟨_, _, ⟨T9, L9, k9, n9⟩, -, X9, ⟨Lc9, hQ9, l9, y9, z9⟩, st9⟩ := X7.virtualBack hx (y := M_11) (z := M_11) hown (mvT hZ (tw_66 hw)) (mvT hZ (tw_67 hw)) (notFace_of_selects (args := #[]) (mvT hZ (tw_69 hw))) (mvT hZ (tw_69 hw)) (mvT hZ (tw_68 hw)) (by decide) (backOf (W := 0) (rm13_35 l Z a0 hw [] b82 b83 T2.heap n0 (Nat.le_trans Z0 KK2.1) o2_3) hZ (tw_70 hw) (tw_9 hw) (by decide) (by decide)) q9a q9c (g := (mkF m 47 #[.val (.int p0), .val (.int p1), .val (.ref a_WRONG_PREFIX), .val (.ref b82)] [(.ref b82)])) rfl (by rw [hml]; rfl) (Steps.refl _) (argsL := []) (rest := []) (lenOf pd_1 rfl) rfl (by show 2 * 0 + _ ≤ _; exact Nat.le_of_eq rfl) (hb hby at_47) (fun _ _ => ⟨rfl, e7, (by decide : 2 + 0 ≤ _), (by decide : 4 + 0 ≤ _)⟩)
  dsimp only [Pt.U, Pt.locs, Pt.cells, Pt.slots] at X9 l9 y9 z9 st9 hQ9
  subst l9 y9 z9
  obtain ⟨rfl, Nq9, e9⟩ := hQ9
  have N9 := Fr.app N7 Nq9
  -- pc 54: com/example/corestone/corestone/BulkRequest$Line.refusal
  obtain ⟨cq10, kq10, q10a, q10b, q10c⟩ := isOf hZ e9 o2_0
  obtain ⟨_, _, ⟨T10, L10, k10, n10⟩, -, X10, ⟨Lc10, hQ10, l10, y10, z10⟩, st10⟩ := X9.virtualBack hx (y := M_11) (z := M_11) hown (mvT hZ (tw_66 hw)) (mvT hZ (tw_67 hw)) (notFace_of_selects (args := #[]) (mvT hZ (tw_69 hw))) (mvT hZ (tw_69 hw)) (mvT hZ (tw_68 hw)) (by decide) (backOf (W := 0) (rm13_35 l Z a0 hw [] b82 b83 T2.heap n0 (Nat.le_trans Z0 KK2.1) o2_3) hZ (tw_70 hw) (tw_9 hw) (by decide) (by decide)) q10a q10c (g := (mkF m 54 #[.val (.int p0), .val (.int p1), .val (.ref a_WRONG_PREFIX), .val (.ref b82)] [(.ref b82)])) rfl (by rw [hml]; rfl) (Steps.refl _) (argsL := []) (rest := []) (lenOf pd_1 rfl) rfl (by show 2 * 0 + _ ≤ _; exact Nat.le_of_eq rfl) (hb hby at_54) (fun _ _ => ⟨rfl, e9, (by decide : 2 + 0 ≤ _), (by decide : 4 + 0 ≤ _)⟩)
  dsimp only [Pt.U, Pt.locs, Pt.cells, Pt.slots] at X10 l10 y10 z10 st10 hQ10
  subst l10 y10 z10
  obtain ⟨rfl, Nq10, e10⟩ := hQ10
  have N10 := Fr.app N9 Nq10
  -- pc 57: java/util/Optional.isPresent
  obtain ⟨cq11, kq11, q11a, q11b, q11c⟩ := isOf hZ e10 o2_4
  obtain ⟨_, _, ⟨T11, L11, k11, n11⟩, -, X11, ⟨Lc11, hQ11, l11, y11, z11⟩, st11⟩ := X10.virtualBack hx (y := M_10) (z := M_10) hown (mvT hZ (tw_61 hw)) (mvT hZ (tw_62 hw)) (notFace_of_selects (args := #[]) (mvT hZ (tw_64 hw))) (mvT hZ (tw_64 hw)) (mvT hZ (tw_63 hw)) (by decide) (backOf (W := 0) (rm12_84 l Z a0 hw [] b83 a_WRONG_PREFIX T2.heap n0 (Nat.le_trans Z0 KK2.1) o2_5) hZ (tw_65 hw) (tw_15 hw) (by decide) (by decide)) q11a q11c (g := (mkF m 57 #[.val (.int p0), .val (.int p1), .val (.ref a_WRONG_PREFIX), .val (.ref b82)] [(.ref b83)])) rfl (by rw [hml]; rfl) (Steps.refl _) (argsL := []) (rest := []) (lenOf pd_9 rfl) rfl (by show 2 * 0 + _ ≤ _; exact Nat.le_of_eq rfl) (hb hby at_57) (fun _ _ => ⟨rfl, e10, (by decide : 2 + 0 ≤ _), (by decide : 4 + 0 ≤ _)⟩)
  dsimp only [Pt.U, Pt.locs, Pt.cells, Pt.slots] at X11 l11 y11 z11 st11 hQ11
  subst l11 y11 z11
  obtain ⟨rfl, Nq11, e11⟩ := hQ11
  have N11 := Fr.app N10 Nq11
  -- pc 66: com/example/corestone/corestone/BulkRequest$Line.refusal
  obtain ⟨cq12, kq12, q12a, q12b, q12c⟩ := isOf hZ e11 o2_0
  obtain ⟨_, _, ⟨T12, L12, k12, n12⟩, -, X12, ⟨Lc12, hQ12, l12, y12, z12⟩, st12⟩ := X11.virtualBack hx (y := M_11) (z := M_11) hown (mvT hZ (tw_66 hw)) (mvT hZ (tw_67 hw)) (notFace_of_selects (args := #[]) (mvT hZ (tw_69 hw))) (mvT hZ (tw_69 hw)) (mvT hZ (tw_68 hw)) (by decide) (backOf (W := 0) (rm13_35 l Z a0 hw [] b82 b83 T2.heap n0 (Nat.le_trans Z0 KK2.1) o2_3) hZ (tw_70 hw) (tw_9 hw) (by decide) (by decide)) q12a q12c (g := (mkF m 66 #[.val (.int p0), .val (.int p1), .val (.ref a_WRONG_PREFIX), .val (.ref b82)] [(.ref b82)])) rfl (by rw [hml]; rfl) (Steps.refl _) (argsL := []) (rest := []) (lenOf pd_1 rfl) rfl (by show 2 * 0 + _ ≤ _; exact Nat.le_of_eq rfl) (hb hby at_66) (fun _ _ => ⟨rfl, e11, (by decide : 2 + 0 ≤ _), (by decide : 4 + 0 ≤ _)⟩)
  dsimp only [Pt.U, Pt.locs, Pt.cells, Pt.slots] at X12 l12 y12 z12 st12 hQ12
  subst l12 y12 z12
  obtain ⟨rfl, Nq12, e12⟩ := hQ12
  have N12 := Fr.app N11 Nq12
  -- pc 69: java/util/Optional.get
  obtain ⟨cq13, kq13, q13a, q13b, q13c⟩ := isOf hZ e12 o2_4
  obtain ⟨_, _, ⟨T13, L13, k13, n13⟩, -, X13, ⟨Lc13, hQ13, l13, y13, z13⟩, st13⟩ := X12.virtualBack hx (y := M_12) (z := M_12) hown (mvT hZ (tw_71 hw)) (mvT hZ (tw_72 hw)) (notFace_of_selects (args := #[]) (mvT hZ (tw_74 hw))) (mvT hZ (tw_74 hw)) (mvT hZ (tw_73 hw)) (by decide) (backOf (W := 0) (rm14_85 l Z a0 hw [] b83 a_WRONG_PREFIX T2.heap n0 (Nat.le_trans Z0 KK2.1) o2_5) hZ (tw_75 hw) (tw_15 hw) (by decide) (by decide)) q13a q13c (g := (mkF m 69 #[.val (.int p0), .val (.int p1), .val (.ref a_WRONG_PREFIX), .val (.ref b82)] [(.ref b83)])) rfl (by rw [hml]; rfl) (Steps.refl _) (argsL := []) (rest := []) (lenOf pd_10 rfl) rfl (by show 2 * 0 + _ ≤ _; exact Nat.le_of_eq rfl) (hb hby at_69) (fun _ _ => ⟨rfl, e12, (by decide : 2 + 0 ≤ _), (by decide : 4 + 0 ≤ _)⟩)
  dsimp only [Pt.U, Pt.locs, Pt.cells, Pt.slots] at X13 l13 y13 z13 st13 hQ13
  subst l13 y13 z13
  obtain ⟨rfl, Nq13, e13⟩ := hQ13
  have N13 := Fr.app N12 Nq13
  obtain ⟨fs, hr, hrun, hended, hW, hsame⟩ := X13.leave (v := (some (.int 1))) (fun h => by rw [Bd.returns] at h; cases h)
  refine ⟨_, _, castTop (ef0_II m p0 p1) ?_, hrun, hended, _, _, rfl, ?_, ⟨_, rfl⟩, hW, hsame.mono (by decide) (by decide)⟩
  · show Steps p.tables e below (s₁.setTop (mkF m 0 #[.val (.int p0), .val (.int p1), .unset, .unset] [])) _
    refine XS.iloadN X0.here hx rfl (hb hby at_0) rfl ?_
    show Steps p.tables e below (s₁.setTop (mkF m 1 #[.val (.int p0), .val (.int p1), .unset, .unset] [(.int p1)])) _
    refine st1 _ ?_
    refine XS.astoreN X1.here hx rfl (hb hby at_4) rfl rfl (l' := #[.val (.int p0), .val (.int p1), .val (.ref a_WRONG_PREFIX), .unset]) rfl ?_
    refine XS.iloadN X1.here hx rfl (hb hby at_5) rfl ?_
    refine XS.aloadN X1.here hx rfl (hb hby at_6) rfl rfl ?_
    show Steps p.tables e below (T1.setTop (mkF m 7 #[.val (.int p0), .val (.int p1), .val (.ref a_WRONG_PREFIX), .unset] [(.ref a_WRONG_PREFIX), (.int p0)])) _
    refine st2 _ ?_
    refine XS.astoreN X2.here hx rfl (hb hby at_10) rfl rfl (l' := #[.val (.int p0), .val (.int p1), .val (.ref a_WRONG_PREFIX), .val (.ref b82)]) rfl ?_
    refine XS.aloadN X2.here hx rfl (hb hby at_11) rfl rfl ?_
    refine XS.ifnonnullYes X2.here hx rfl (pc0 := 12) (pc' := 17) rfl (hb hby at_12) rfl (by decide) (by decide) ?_
    refine XS.aloadN X2.here hx rfl (hb hby at_17) rfl rfl ?_
    show Steps p.tables e below (T2.setTop (mkF m 18 #[.val (.int p0), .val (.int p1), .val (.ref a_WRONG_PREFIX), .val (.ref b82)] [(.ref b82)])) _
    refine st3.trans ?_
    refine XS.iloadN X3.here hx rfl (hb hby at_21) rfl ?_
    refine XS.icmpYes X3.here hx rfl (pc0 := 22) (pc' := 27) rfl (hb hby at_22) rfl (teq (rfl : p0 = p0)).1 (by decide) (by decide) ?_
    refine XS.aloadN X3.here hx rfl (hb hby at_27) rfl rfl ?_
    show Steps p.tables e below (T3.setTop (mkF m 28 #[.val (.int p0), .val (.int p1), .val (.ref a_WRONG_PREFIX), .val (.ref b82)] [(.ref b82)])) _
    refine st4.trans ?_
    refine XS.ifnullNo X4.here hx rfl (hb hby at_31) rfl ?_
    refine XS.aloadN X4.here hx rfl (hb hby at_34) rfl rfl ?_
    show Steps p.tables e below (T4.setTop (mkF m 35 #[.val (.int p0), .val (.int p1), .val (.ref a_WRONG_PREFIX), .val (.ref b82)] [(.ref b82)])) _
    refine st5.trans ?_
    show Steps p.tables e below (T5.setTop (mkF m 38 #[.val (.int p0), .val (.int p1), .val (.ref a_WRONG_PREFIX), .val (.ref b82)] [(.ref a_EMPTY)])) _
    refine st7.trans ?_
    refine XS.ifYes X7.here hx rfl (pc0 := 41) (pc' := 46) rfl (hb hby at_41) rfl (by decide) (by decide) (by decide) ?_
    refine XS.aloadN X7.here hx rfl (hb hby at_46) rfl rfl ?_
    show Steps p.tables e below (T7.setTop (mkF m 47 #[.val (.int p0), .val (.int p1), .val (.ref a_WRONG_PREFIX), .val (.ref b82)] [(.ref b82)])) _
    refine st9.trans ?_
    refine XS.ifnullNo X9.here hx rfl (hb hby at_50) rfl ?_
    refine XS.aloadN X9.here hx rfl (hb hby at_53) rfl rfl ?_
    show Steps p.tables e below (T9.setTop (mkF m 54 #[.val (.int p0), .val (.int p1), .val (.ref a_WRONG_PREFIX), .val (.ref b82)] [(.ref b82)])) _
    refine st10.trans ?_
    show Steps p.tables e below (T10.setTop (mkF m 57 #[.val (.int p0), .val (.int p1), .val (.ref a_WRONG_PREFIX), .val (.ref b82)] [(.ref b83)])) _
    refine st11.trans ?_
    refine XS.ifYes X11.here hx rfl (pc0 := 60) (pc' := 65) rfl (hb hby at_60) rfl (by decide) (by decide) (by decide) ?_
    refine XS.aloadN X11.here hx rfl (hb hby at_65) rfl rfl ?_
    show Steps p.tables e below (T11.setTop (mkF m 66 #[.val (.int p0), .val (.int p1), .val (.ref a_WRONG_PREFIX), .val (.ref b82)] [(.ref b82)])) _
    refine st12.trans ?_
    show Steps p.tables e below (T12.setTop (mkF m 69 #[.val (.int p0), .val (.int p1), .val (.ref a_WRONG_PREFIX), .val (.ref b82)] [(.ref b83)])) _
    refine st13.trans ?_
    refine XS.aloadN X13.here hx rfl (hb hby at_72) rfl rfl ?_
    show Steps p.tables e below (T13.setTop (mkF m 73 #[.val (.int p0), .val (.int p1), .val (.ref a_WRONG_PREFIX), .val (.ref b82)] [(.ref a_WRONG_PREFIX), (.ref a_WRONG_PREFIX)])) _
    refine Jvm.RoadKit.acmp (g := (mkF m 73 #[.val (.int p0), .val (.int p1), .val (.ref a_WRONG_PREFIX), .val (.ref b82)] [(.ref a_WRONG_PREFIX), (.ref a_WRONG_PREFIX)])) X13 hx rfl rfl rfl (pc0 := 73) (pc' := 76) (same := true) rfl (hb hby at_73) rfl (decide_eq_true rfl) (by decide) (by decide) ?_
    refine XS.iconst X13.here hx rfl (hb hby at_76) ?_
    refine XS.goto X13.here hx rfl (pc0 := 77) (pc' := 81) rfl (hb hby at_77) (by decide) (by decide) ?_
    show Steps p.tables e below (T13.setTop (mkF m 81 #[.val (.int p0), .val (.int p1), .val (.ref a_WRONG_PREFIX), .val (.ref b82)] [(.int 1)])) _
    exact retN X13 hx (t := .boolean) Bd.returns (by simp) (hb hby at_81) hr
  · show QT n0 _ T13.heap _
    rw [e13]
    exact ⟨rfl, N13⟩
theorem d1_40 : decode method_2_code 40 = .ok (.iload_n 1, 1) := by decide +kernel
theorem d1_41 : decode method_2_code 41 = .ok (.iconst 4, 1) := by decide +kernel
theorem d1_42 : decode method_2_code 42 = .ok (.if_icmp .ne 7, 3) := by decide +kernel
theorem d1_45 : decode method_2_code 45 = .ok (.getstatic 22, 3) := by decide +kernel
theorem tw_78 {a0 : Array Value} {Z : State} (hw : ∀ d ∈ tables_1, d.before a0 Z = true) : (Jvm.Cond.fieldLink "com/example/corestone/corestone/LineRefusedPinLaw" (22 : Nat) "com/example/corestone/corestone/RefusedException$Refusal" "INVALID_URL" "Lcom/example/corestone/corestone/RefusedException$Refusal;").before a0 Z = true := hw _ (List.mem_of_getElem? (i := 78) rfl)
theorem d1_48 : decode method_2_code 48 = .ok (.areturn, 1) := by decide +kernel
set_option maxRecDepth 65536 in
set_option maxHeartbeats 40000000 in
theorem rm1_87 (l : Launch) (Z : State) (a0 : Array Value) (hw : ∀ d ∈ tables_1, d.before a0 Z = true) (ws : List Jvm.Cond) (p1 : Int32) (a_INVALID_URL : Addr) (h0 : Heap) (n0 : Nat) (Z0 : n0 ≤ h0.size) (f1 : (p1 &&& (7 : Int32)) = (4 : Int32)) (f2 : S_2 Z h0 (.ref a_INVALID_URL)) :
    MetFree l M_0 (head1 (Jvm.Cond.code M_0 method_2_code 2 (some (.object "com/example/corestone/corestone/RefusedException$Refusal")) :: ws) R_0_0_0_0) (fun a U => a = #[(.int p1)] ∧ Z.Warmed39 U.vm ∧ U.heap = h0) (fun _ _ _ _ _ => True) (fun _ U o U' => ∃ v L, o = .returned v ∧ QP (some (.ref a_INVALID_URL)) h0 n0 v U'.heap L ∧ FrameEnd U o U' L R_0_0_0_0.cells R_0_0_0_0.slots) := by
  refine MetFree.of_bodySF (plainFor_of_name pn_com_example_corestone_corestone_LineRefusedPinLaw) hisR ?_
  intro p e s m args below meth c s₁ Bd hml0 hP hK
  obtain ⟨rfl, hZ, hh⟩ := hP
  have hx := Bd.exec
  have hby := Bd.bytes
  have hml : c.maxLocals = 2 := hml0
  have hown : s.vm.findClass "com/example/corestone/corestone/LineRefusedPinLaw" = some m.cls := findClass_of_methodNamed Bd.named
  have hnm := (name_of_methodNamed Bd.named Bd.method).1
  have X0 : Stand p l e R_0_0_0_0 s m #[(.int p1)] below meth c s₁ [] 0 0 := Stand.of_body Bd
  have e0 : s₁.heap = h0 := by rw [← hh, Bd.state]; rfl
  have N0 := Fr.nil n0
  obtain ⟨T1, X1, e1, st1⟩ := getS2 X0 hx hZ hown (host := "") (Or.inl (tw_78 hw)) Via.refl e0 f2 (g := (mkF m 45 #[.val (.int p1), .val (.int 4)] [])) rfl (hb hby d1_45)
  obtain ⟨fs, hr, hrun, hended, hW, hsame⟩ := X1.leave (v := (some (.ref a_INVALID_URL))) (fun h => by rw [Bd.returns] at h; cases h)
  refine ⟨_, _, castTop (ef1_I m p1) ?_, hrun, hended, _, _, rfl, ?_, ⟨_, rfl⟩, hW, hsame.mono (by decide) (by decide)⟩
  · show Steps p.tables e below (s₁.setTop (mkF m 0 #[.val (.int p1), .unset] [])) _
    refine XS.iloadN X0.here hx rfl (hb hby d1_0) rfl ?_
    refine XS.bipush X0.here hx rfl (hb hby d1_1) ?_
    show Steps p.tables e below (s₁.setTop (mkF m 3 #[.val (.int p1), .unset] [(.int 7), (.int p1)])) _
    refine XS.iand X0.here hx rfl (hb hby d1_3) rfl ?_
    show Steps p.tables e below (s₁.setTop (mkF m 4 #[.val (.int p1), .unset] [(.int (p1 &&& (7 : Int32)))])) _
    rw [f1]
    refine XS.istoreN X0.here hx rfl (hb hby d1_4) rfl (l' := #[.val (.int p1), .val (.int 4)]) rfl ?_
    refine XS.iloadN X0.here hx rfl (hb hby d1_5) rfl ?_
    refine XS.ifYes X0.here hx rfl (pc0 := 6) (pc' := 13) rfl (hb hby d1_6) rfl (by decide) (by decide) (by decide) ?_
    refine XS.iloadN X0.here hx rfl (hb hby d1_13) rfl ?_
    show Steps p.tables e below (s₁.setTop (mkF m 14 #[.val (.int p1), .val (.int 4)] [(.int 4)])) _
    refine XS.iconst X0.here hx rfl (hb hby d1_14) ?_
    refine XS.icmpYes X0.here hx rfl (pc0 := 15) (pc' := 22) rfl (hb hby d1_15) rfl (by decide) (by decide) (by decide) ?_
    refine XS.iloadN X0.here hx rfl (hb hby d1_22) rfl ?_
    refine XS.iconst X0.here hx rfl (hb hby d1_23) ?_
    refine XS.icmpYes X0.here hx rfl (pc0 := 24) (pc' := 31) rfl (hb hby d1_24) rfl (by decide) (by decide) (by decide) ?_
    show Steps p.tables e below (s₁.setTop (mkF m 31 #[.val (.int p1), .val (.int 4)] [])) _
    refine XS.iloadN X0.here hx rfl (hb hby d1_31) rfl ?_
    refine XS.iconst X0.here hx rfl (hb hby d1_32) ?_
    refine XS.icmpYes X0.here hx rfl (pc0 := 33) (pc' := 40) rfl (hb hby d1_33) rfl (by decide) (by decide) (by decide) ?_
    refine XS.iloadN X0.here hx rfl (hb hby d1_40) rfl ?_
    refine XS.iconst X0.here hx rfl (hb hby d1_41) ?_
    show Steps p.tables e below (s₁.setTop (mkF m 42 #[.val (.int p1), .val (.int 4)] [(.int 4), (.int 4)])) _
    refine XS.icmpNo X0.here hx rfl (hb hby d1_42) rfl (by decide) ?_
    show Steps p.tables e below (s₁.setTop (mkF m 45 #[.val (.int p1), .val (.int 4)] [])) _
    refine st1 _ ?_
    show Steps p.tables e below (T1.setTop (mkF m 48 #[.val (.int p1), .val (.int 4)] [(.ref a_INVALID_URL)])) _
    jvm_step X1.here [X1.here.top, hx, (hb hby d1_48), X1.method', Bd.returns, Value.isRef, FieldType.isReference]
    first | (intro acts; rw [hr _ acts rfl rfl rfl]) | rw [hr _ _ rfl rfl rfl]
    exact Steps.refl _
  · show QP (some (.ref a_INVALID_URL)) h0 n0 _ T1.heap _
    rw [e1]
    exact ⟨rfl, N0, rfl⟩
set_option maxRecDepth 65536 in
set_option maxHeartbeats 40000000 in
theorem rm5_90 (l : Launch) (Z : State) (a0 : Array Value) (hw : ∀ d ∈ tables_1, d.before a0 Z = true) (ws : List Jvm.Cond) (a_INVALID_URL : Addr) (h0 : Heap) (n0 : Nat) (Z0 : n0 ≤ h0.size) :
    MetFree l M_2 (head1 (Jvm.Cond.code M_2 jdk_31_method_10_code 1 (some (.object "java/lang/Object")) :: ws) R_0_0_0_0) (fun a U => a = #[(.ref a_INVALID_URL)] ∧ Z.Warmed39 U.vm ∧ U.heap = h0) (fun _ _ _ _ _ => True) (fun _ U o U' => ∃ v L, o = .returned v ∧ QP (some (.ref a_INVALID_URL)) h0 n0 v U'.heap L ∧ FrameEnd U o U' L R_0_0_0_0.cells R_0_0_0_0.slots) := by
  refine MetFree.of_bodySF (plainFor_of_name pn_java_util_Objects) hisR ?_
  intro p e s m args below meth c s₁ Bd hml0 hP hK
  obtain ⟨rfl, hZ, hh⟩ := hP
  have hx := Bd.exec
  have hby := Bd.bytes
  have hml : c.maxLocals = 1 := hml0
  have hown : s.vm.findClass "java/util/Objects" = some m.cls := findClass_of_methodNamed Bd.named
  have hnm := (name_of_methodNamed Bd.named Bd.method).1
  have X0 : Stand p l e R_0_0_0_0 s m #[(.ref a_INVALID_URL)] below meth c s₁ [] 0 0 := Stand.of_body Bd
  have e0 : s₁.heap = h0 := by rw [← hh, Bd.state]; rfl
  have N0 := Fr.nil n0
  obtain ⟨fs, hr, hrun, hended, hW, hsame⟩ := X0.leave (v := (some (.ref a_INVALID_URL))) (fun h => by rw [Bd.returns] at h; cases h)
  refine ⟨_, _, castTop (ef5_R m a_INVALID_URL) ?_, hrun, hended, _, _, rfl, ?_, ⟨_, rfl⟩, hW, hsame.mono (by decide) (by decide)⟩
  · show Steps p.tables e below (s₁.setTop (mkF m 0 #[.val (.ref a_INVALID_URL)] [])) _
    refine XS.aloadN X0.here hx rfl (hb hby d5_0) rfl rfl ?_
    refine XS.ifnonnullYes X0.here hx rfl (pc0 := 1) (pc' := 12) rfl (hb hby d5_1) rfl (by decide) (by decide) ?_
    refine XS.aloadN X0.here hx rfl (hb hby d5_12) rfl rfl ?_
    show Steps p.tables e below (s₁.setTop (mkF m 13 #[.val (.ref a_INVALID_URL)] [(.ref a_INVALID_URL)])) _
    jvm_step X0.here [X0.here.top, hx, (hb hby d5_13), X0.method', Bd.returns, Value.isRef, FieldType.isReference]
    first | (intro acts; rw [hr _ acts rfl rfl rfl]) | rw [hr _ _ rfl rfl rfl]
    exact Steps.refl _
  · show QP (some (.ref a_INVALID_URL)) h0 n0 _ s₁.heap _
    rw [e0]
    exact ⟨rfl, N0, rfl⟩
def Q6_92 (Z : State) (c0_a : Addr) (a_INVALID_URL : Addr) (h0 : Heap) (n0 : Nat) (v : Option Value) (h : Heap) (L : List Loc) : Prop := v = none ∧ Fr n0 L ∧ Keep h0 h [c0_a] ∧ F_0 Z h c0_a (.ref a_INVALID_URL)
set_option maxRecDepth 65536 in
set_option maxHeartbeats 40000000 in
theorem rm6_91 (l : Launch) (Z : State) (a0 : Array Value) (hw : ∀ d ∈ tables_1, d.before a0 Z = true) (ws : List Jvm.Cond) (c0_a : Addr) (a_INVALID_URL : Addr) (h0 : Heap) (n0 : Nat) (Z0 : n0 ≤ h0.size) (f1 : F_0 Z h0 c0_a .null) (f2 : E_1 Z h0 c0_a) (f3 : n0 ≤ c0_a) :
    MetFree l M_3 (head1 (Jvm.Cond.code M_3 jdk_32_method_2_code 2 none :: ws) R_1_0_0_12) (fun a U => a = #[(.ref c0_a), (.ref a_INVALID_URL)] ∧ Z.Warmed39 U.vm ∧ U.heap = h0) (fun _ _ _ _ _ => True) (fun _ U o U' => ∃ v L, o = .returned v ∧ Q6_92 Z c0_a a_INVALID_URL h0 n0 v U'.heap L ∧ FrameEnd U o U' L R_1_0_0_12.cells R_1_0_0_12.slots) := by
  refine MetFree.of_bodySF (plainFor_of_name pn_java_util_Optional) hisR ?_
  intro p e s m args below meth c s₁ Bd hml0 hP hK
  obtain ⟨rfl, hZ, hh⟩ := hP
  have hx := Bd.exec
  have hby := Bd.bytes
  have hml : c.maxLocals = 2 := hml0
  have hown : s.vm.findClass "java/util/Optional" = some m.cls := findClass_of_methodNamed Bd.named
  have hnm := (name_of_methodNamed Bd.named Bd.method).1
  have X0 : Stand p l e R_1_0_0_12 s m #[(.ref c0_a), (.ref a_INVALID_URL)] below meth c s₁ [] 0 0 := Stand.of_body Bd
  have e0 : s₁.heap = h0 := by rw [← hh, Bd.state]; rfl
  have N0 := Fr.nil n0
  obtain ⟨T1, X1, e1, st1⟩ := initO X0 hx hZ hown (tw_31 hw) (tw_32 hw) (tw_33 hw) e0 (g := (mkF m 1 #[.val (.ref c0_a), .val (.ref a_INVALID_URL)] [(.ref c0_a)])) rfl (by rw [hml]; rfl) rfl (hb hby d6_1) (by decide) (W := 0) (by show 2 * 0 + _ ≤ _; exact Nat.le_of_eq rfl) (by decide)
  obtain ⟨T2, h2, X2, e2, W2, st2⟩ := putF X1 hx hZ hown (host := "") (Or.inl (tw_34 hw)) Via.refl e1 f1 f2 (Or.inr ⟨(tw_35 hw), rfl, hnm⟩) (tw_22 hw) (ty := (.object "java/lang/Object")) (by decide) rfl rfl (g := (mkF m 6 #[.val (.ref c0_a), .val (.ref a_INVALID_URL)] [(.ref a_INVALID_URL), (.ref c0_a)])) rfl rfl (hb hby d6_6)
  have Fw2 : F_0 Z h2 c0_a (.ref a_INVALID_URL) := Fld.same W2 f1
  have KK2 : Keep h0 h2 [c0_a] := (Keep.refl h0 [c0_a]).wr W2 (Or.inl (List.mem_of_getElem? (i := 0) rfl))
  have N2 := Fr.snoc X2 N0 f3
  obtain ⟨fs, hr, hrun, hended, hW, hsame⟩ := X2.leave (v := none) (fun _ => rfl)
  refine ⟨_, _, castTop (ef6_RR m c0_a a_INVALID_URL) ?_, hrun, hended, _, _, rfl, ?_, ⟨_, rfl⟩, hW, hsame.mono (by decide) (by decide)⟩
  · show Steps p.tables e below (s₁.setTop (mkF m 0 #[.val (.ref c0_a), .val (.ref a_INVALID_URL)] [])) _
    refine XS.aloadN X0.here hx rfl (hb hby d6_0) rfl rfl ?_
    show Steps p.tables e below (s₁.setTop (mkF m 1 #[.val (.ref c0_a), .val (.ref a_INVALID_URL)] [(.ref c0_a)])) _
    refine st1 _ ?_
    refine XS.aloadN X1.here hx rfl (hb hby d6_4) rfl rfl ?_
    refine XS.aloadN X1.here hx rfl (hb hby d6_5) rfl rfl ?_
    show Steps p.tables e below (T1.setTop (mkF m 6 #[.val (.ref c0_a), .val (.ref a_INVALID_URL)] [(.ref a_INVALID_URL), (.ref c0_a)])) _
    refine st2 _ ?_
    show Steps p.tables e below (T2.setTop (mkF m 9 #[.val (.ref c0_a), .val (.ref a_INVALID_URL)] [])) _
    exact X2.returnOut hx Bd.returns (hb hby d6_9) hr
  · show Q6_92 Z c0_a a_INVALID_URL h0 n0 _ T2.heap _
    rw [e2]
    exact ⟨rfl, N2, KK2, Fw2⟩
def Q4_94 (Z : State) (a_INVALID_URL : Addr) (h0 : Heap) (n0 : Nat) (v : Option Value) (h : Heap) (L : List Loc) : Prop := ∃ (b89 : Addr), v = (some (.ref b89)) ∧ Fr n0 L ∧ Keep h0 h [] ∧ h0.size ≤ b89 ∧ E_1 Z h b89 ∧ F_0 Z h b89 (.ref a_INVALID_URL)
set_option maxRecDepth 65536 in
set_option maxHeartbeats 40000000 in
theorem rm4_93 (l : Launch) (Z : State) (a0 : Array Value) (hw : ∀ d ∈ tables_1, d.before a0 Z = true) (ws : List Jvm.Cond) (a_INVALID_URL : Addr) (h0 : Heap) (n0 : Nat) (Z0 : n0 ≤ h0.size) :
    MetFree l M_4 (head1 (Jvm.Cond.code M_4 jdk_32_method_3_code 1 (some (.object "java/util/Optional")) :: ws) R_2_1_1_26) (fun a U => a = #[(.ref a_INVALID_URL)] ∧ Z.Warmed39 U.vm ∧ U.heap = h0) (fun _ _ _ _ _ => True) (fun _ U o U' => ∃ v L, o = .returned v ∧ Q4_94 Z a_INVALID_URL h0 n0 v U'.heap L ∧ FrameEnd U o U' L R_2_1_1_26.cells R_2_1_1_26.slots) := by
  refine MetFree.of_bodySF (plainFor_of_name pn_java_util_Optional) hisR ?_
  intro p e s m args below meth c s₁ Bd hml0 hP hK
  obtain ⟨rfl, hZ, hh⟩ := hP
  have hx := Bd.exec
  have hby := Bd.bytes
  have hml : c.maxLocals = 1 := hml0
  have hown : s.vm.findClass "java/util/Optional" = some m.cls := findClass_of_methodNamed Bd.named
  have hnm := (name_of_methodNamed Bd.named Bd.method).1
  have X0 : Stand p l e R_2_1_1_26 s m #[(.ref a_INVALID_URL)] below meth c s₁ [] 0 0 := Stand.of_body Bd
  have e0 : s₁.heap = h0 := by rw [← hh, Bd.state]; rfl
  have N0 := Fr.nil n0
  obtain ⟨T1, h1, X1, e1, E1, A1, D1, -, st1⟩ := newO X0 hx hZ hown (tw_21 hw) (tw_22 hw) (tw_15 hw) e0 (g := (mkF m 0 #[.val (.ref a_INVALID_URL)] [])) rfl (hb hby d4_0) (by decide) (by decide)
  obtain ⟨b89, g1⟩ : ∃ z, z = h0.size := ⟨_, rfl⟩
  rw [← g1] at A1 D1 st1
  have sz_b89 : h0.size ≤ b89 := Nat.le_trans (Nat.le_refl _) (Nat.le_of_eq g1.symm)
  have g_b89 : n0 ≤ b89 := Nat.le_trans Z0 sz_b89
  have KK1 : Keep h0 h1 [] := (Keep.refl h0 []).ext E1
  have F1_35 : F_0 Z h1 b89 .null := D1 (Or.inr (tw_35 hw)) (ty := (.object "java/lang/Object")) (by decide)
  -- pc 5: java/util/Objects.requireNonNull
  obtain ⟨_, _, ⟨T2, L2, k2, n2⟩, -, X2, ⟨Lc2, hQ2, l2, y2, z2⟩, st2⟩ := Jvm.LawKit.callS X1 hx (y := M_2) hown (mvT hZ (tw_23 hw)) (mvT hZ (tw_24 hw)) (mvT hZ (tw_25 hw)) (mvT hZ (tw_26 hw)) (by decide) (backOf (W := 2) (rm5_90 l Z a0 hw [] a_INVALID_URL h1 n0 (Nat.le_trans Z0 KK1.1) ) hZ (tw_26 hw) (tw_25 hw) (by decide) (by decide)) (g := (mkF m 5 #[.val (.ref a_INVALID_URL)] [(.ref a_INVALID_URL), (.ref b89), (.ref b89)])) rfl (by rw [hml]; rfl) (argsL := [(.ref a_INVALID_URL)]) (rest := [(.ref b89), (.ref b89)]) (lenOf pd_2 rfl) rfl (by show 2 * 0 + _ ≤ _; exact Nat.le_of_eq rfl) (hb hby d4_5) (fun _ _ => ⟨rfl, e1, (by decide : 1 + 0 ≤ _), (by decide : 1 + 0 ≤ _)⟩)
  dsimp only [Pt.U, Pt.locs, Pt.cells, Pt.slots] at X2 l2 y2 z2 st2 hQ2
  subst l2 y2 z2
  obtain ⟨rfl, Nq2, e2⟩ := hQ2
  have N2 := Fr.app N0 Nq2
  -- pc 8: java/util/Optional.<init>
  obtain ⟨_, _, ⟨T3, L3, k3, n3⟩, -, X3, ⟨Lc3, hQ3, l3, y3, z3⟩, st3⟩ := X2.specialBack hx (y := M_3) rfl hown (mvT hZ (tw_27 hw)) (mvT hZ (tw_28 hw)) (mvT hZ (tw_30 hw)) (by decide) (backOf (W := 1) (rm6_91 l Z a0 hw [] b89 a_INVALID_URL h1 n0 (Nat.le_trans Z0 KK1.1) F1_35 A1 g_b89) hZ (tw_30 hw) (tw_15 hw) (by decide) (by decide)) (g := (mkF m 8 #[.val (.ref a_INVALID_URL)] [(.ref a_INVALID_URL), (.ref b89), (.ref b89)])) rfl (by rw [hml]; rfl) (Steps.refl _) (a := b89) (argsL := [(.ref a_INVALID_URL)]) (rest := [(.ref b89)]) (lenOf pd_3 rfl) rfl (by show 2 * 0 + _ ≤ _; exact Nat.le_of_eq rfl) (hb hby d4_8) (fun _ _ => ⟨rfl, e2, (by decide : 1 + 0 ≤ _), (by decide : 1 + 0 ≤ _)⟩)
  dsimp only [Pt.U, Pt.locs, Pt.cells, Pt.slots] at X3 l3 y3 z3 st3 hQ3
  subst l3 y3 z3
  obtain ⟨rfl, Nq3, K3, o3_0⟩ := hQ3
  have N3 := Fr.app N2 Nq3
  have KK3 : Keep h0 T3.heap [] := KK1.trans K3 (fun x hx => (List.mem_cons.mp hx).elim (fun q => q ▸ (Or.inr sz_b89)) (fun hx => nomatch hx))
  have u4 : E_1 Z T3.heap b89 := Exa.keep A1 K3
  obtain ⟨fs, hr, hrun, hended, hW, hsame⟩ := X3.leave (v := (some (.ref b89))) (fun h => by rw [Bd.returns] at h; cases h)
  refine ⟨_, _, castTop (ef4_R m a_INVALID_URL) ?_, hrun, hended, _, _, rfl, ?_, ⟨_, rfl⟩, hW, hsame.mono (by decide) (by decide)⟩
  · show Steps p.tables e below (s₁.setTop (mkF m 0 #[.val (.ref a_INVALID_URL)] [])) _
    refine st1 _ ?_
    refine XS.dup X1.here hx rfl (hb hby d4_3) rfl rfl ?_
    refine XS.aloadN X1.here hx rfl (hb hby d4_4) rfl rfl ?_
    show Steps p.tables e below (T1.setTop (mkF m 5 #[.val (.ref a_INVALID_URL)] [(.ref a_INVALID_URL), (.ref b89), (.ref b89)])) _
    refine st2 _ ?_
    show Steps p.tables e below (T2.setTop (mkF m 8 #[.val (.ref a_INVALID_URL)] [(.ref a_INVALID_URL), (.ref b89), (.ref b89)])) _
    refine st3.trans ?_
    show Steps p.tables e below (T3.setTop (mkF m 11 #[.val (.ref a_INVALID_URL)] [(.ref b89)])) _
    jvm_step X3.here [X3.here.top, hx, (hb hby d4_11), X3.method', Bd.returns, Value.isRef, FieldType.isReference]
    first | (intro acts; rw [hr _ acts rfl rfl rfl]) | rw [hr _ _ rfl rfl rfl]
    exact Steps.refl _
  · show Q4_94 Z a_INVALID_URL h0 n0 _ T3.heap _
    exact ⟨b89, rfl, N3, KK3, sz_b89, u4, o3_0⟩
def Q2_97 (Z : State) (p0 : Int32) (a_EMPTY : Addr) (a_INVALID_URL : Addr) (h0 : Heap) (n0 : Nat) (v : Option Value) (h : Heap) (L : List Loc) : Prop := ∃ (b88 : Addr) (b95 : Addr), v = (some (.ref b88)) ∧ Fr n0 L ∧ Keep h0 h [] ∧ h0.size ≤ b88 ∧ h0.size ≤ b95 ∧ E_2 Z h b88 ∧ F_1 Z h b88 (.int p0) ∧ F_2 Z h b88 (.ref a_EMPTY) ∧ F_3 Z h b88 (.ref b95) ∧ E_1 Z h b95 ∧ F_0 Z h b95 (.ref a_INVALID_URL) ∧ b88 ≠ b95
set_option maxRecDepth 65536 in
set_option maxHeartbeats 40000000 in
theorem rm2_96 (l : Launch) (Z : State) (a0 : Array Value) (hw : ∀ d ∈ tables_1, d.before a0 Z = true) (ws : List Jvm.Cond) (p0 : Int32) (a_INVALID_URL : Addr) (a_EMPTY : Addr) (h0 : Heap) (n0 : Nat) (Z0 : n0 ≤ h0.size) (f1 : S_8 Z h0 (.ref a_EMPTY)) :
    MetFree l M_7 (head1 (Jvm.Cond.code M_7 prog_3_method_3_code 2 (some (.object "com/example/corestone/corestone/BulkRequest$Line")) :: ws) R_3_2_4_42) (fun a U => a = #[(.int p0), (.ref a_INVALID_URL)] ∧ Z.Warmed39 U.vm ∧ U.heap = h0) (fun _ _ _ _ _ => True) (fun _ U o U' => ∃ v L, o = .returned v ∧ Q2_97 Z p0 a_EMPTY a_INVALID_URL h0 n0 v U'.heap L ∧ FrameEnd U o U' L R_3_2_4_42.cells R_3_2_4_42.slots) := by
  refine MetFree.of_bodySF (plainFor_of_name pn_com_example_corestone_corestone_BulkRequest_Line) hisR ?_
  intro p e s m args below meth c s₁ Bd hml0 hP hK
  obtain ⟨rfl, hZ, hh⟩ := hP
  have hx := Bd.exec
  have hby := Bd.bytes
  have hml : c.maxLocals = 2 := hml0
  have hown : s.vm.findClass "com/example/corestone/corestone/BulkRequest$Line" = some m.cls := findClass_of_methodNamed Bd.named
  have hnm := (name_of_methodNamed Bd.named Bd.method).1
  have X0 : Stand p l e R_3_2_4_42 s m #[(.int p0), (.ref a_INVALID_URL)] below meth c s₁ [] 0 0 := Stand.of_body Bd
  have e0 : s₁.heap = h0 := by rw [← hh, Bd.state]; rfl
  have N0 := Fr.nil n0
  obtain ⟨T1, h1, X1, e1, E1, A1, D1, -, st1⟩ := newO X0 hx hZ hown (tw_11 hw) (tw_12 hw) (tw_9 hw) e0 (g := (mkF m 0 #[.val (.int p0), .val (.ref a_INVALID_URL)] [])) rfl (hb hby d2_0) (by decide) (by decide)
  obtain ⟨b88, g1⟩ : ∃ z, z = h0.size := ⟨_, rfl⟩
  rw [← g1] at A1 D1 st1
  have sz_b88 : h0.size ≤ b88 := Nat.le_trans (Nat.le_refl _) (Nat.le_of_eq g1.symm)
  have g_b88 : n0 ≤ b88 := Nat.le_trans Z0 sz_b88
  have KK1 : Keep h0 h1 [] := (Keep.refl h0 []).ext E1
  have F1_46 : F_1 Z h1 b88 (.int 0) := D1 (Or.inr (tw_46 hw)) (ty := .int) (by decide)
  have F1_48 : F_2 Z h1 b88 .null := D1 (Or.inr (tw_48 hw)) (ty := (.object "java/util/Optional")) (by decide)
  have F1_50 : F_3 Z h1 b88 .null := D1 (Or.inr (tw_50 hw)) (ty := (.object "java/util/Optional")) (by decide)
  -- pc 5: java/util/Optional.empty
  have u2 : S_8 Z h1 (.ref a_EMPTY) := Sta.ext E1 f1
  obtain ⟨_, _, ⟨T3, L3, k3, n3⟩, -, X3, ⟨Lc3, hQ3, l3, y3, z3⟩, st3⟩ := Jvm.LawKit.callS X1 hx (y := M_1) hown (mvT hZ (tw_13 hw)) (mvT hZ (tw_14 hw)) (mvT hZ (tw_15 hw)) (mvT hZ (tw_16 hw)) (by decide) (backOf (W := 3) (rm3_17 l Z a0 hw [] a_EMPTY h1 n0 (Nat.le_trans Z0 KK1.1) u2) hZ (tw_16 hw) (tw_15 hw) (by decide) (by decide)) (g := (mkF m 5 #[.val (.int p0), .val (.ref a_INVALID_URL)] [(.int p0), (.ref b88), (.ref b88)])) rfl (by rw [hml]; rfl) (argsL := []) (rest := [(.int p0), (.ref b88), (.ref b88)]) (lenOf pd_1 rfl) rfl (by show 2 * 0 + _ ≤ _; exact Nat.le_of_eq rfl) (hb hby d2_5) (fun _ _ => ⟨rfl, e1, (by decide : 1 + 0 ≤ _), (by decide : 3 + 0 ≤ _)⟩)
  dsimp only [Pt.U, Pt.locs, Pt.cells, Pt.slots] at X3 l3 y3 z3 st3 hQ3
  subst l3 y3 z3
  obtain ⟨rfl, Nq3, e3⟩ := hQ3
  have N3 := Fr.app N0 Nq3
  -- pc 9: java/util/Optional.of
  obtain ⟨_, _, ⟨T4, L4, k4, n4⟩, -, X4, ⟨Lc4, hQ4, l4, y4, z4⟩, st4⟩ := Jvm.LawKit.callS X3 hx (y := M_4) hown (mvT hZ (tw_18 hw)) (mvT hZ (tw_19 hw)) (mvT hZ (tw_15 hw)) (mvT hZ (tw_20 hw)) (by decide) (backOf (W := 4) (rm4_93 l Z a0 hw [] a_INVALID_URL h1 n0 (Nat.le_trans Z0 KK1.1) ) hZ (tw_20 hw) (tw_15 hw) (by decide) (by decide)) (g := (mkF m 9 #[.val (.int p0), .val (.ref a_INVALID_URL)] [(.ref a_INVALID_URL), (.ref a_EMPTY), (.int p0), (.ref b88), (.ref b88)])) rfl (by rw [hml]; rfl) (argsL := [(.ref a_INVALID_URL)]) (rest := [(.ref a_EMPTY), (.int p0), (.ref b88), (.ref b88)]) (lenOf pd_4 rfl) rfl (by show 2 * 0 + _ ≤ _; exact Nat.le_of_eq rfl) (hb hby d2_9) (fun _ _ => ⟨rfl, e3, (by decide : 1 + 1 ≤ _), (by decide : 3 + 1 ≤ _)⟩)
  dsimp only [Pt.U, Pt.locs, Pt.cells, Pt.slots] at X4 l4 y4 z4 st4 hQ4
  subst l4 y4 z4
  obtain ⟨b95, rfl, Nq4, K4, le_b95, o4_0, o4_1⟩ := hQ4
  have N4 := Fr.app N3 Nq4
  have sz_b95 : h0.size ≤ b95 := Nat.le_trans KK1.1 le_b95
  have g_b95 : n0 ≤ b95 := Nat.le_trans Z0 sz_b95
  have KK4 : Keep h0 T4.heap [] := KK1.trans K4 (fun x hx => nomatch hx)
  -- pc 12: com/example/corestone/corestone/BulkRequest$Line.<init>
  have u5 : F_1 Z T4.heap b88 (.int 0) := Fld.keep F1_46 K4 List.not_mem_nil
  have u6 : E_2 Z T4.heap b88 := Exa.keep A1 K4
  have u7 : F_2 Z T4.heap b88 .null := Fld.keep F1_48 K4 List.not_mem_nil
  have u8 : F_3 Z T4.heap b88 .null := Fld.keep F1_50 K4 List.not_mem_nil
  obtain ⟨_, _, ⟨T9, L9, k9, n9⟩, -, X9, ⟨Lc9, hQ9, l9, y9, z9⟩, st9⟩ := X4.specialBack hx (y := M_6) rfl hown (mvT hZ (tw_36 hw)) (mvT hZ (tw_37 hw)) (mvT hZ (tw_38 hw)) (by decide) (backOf (W := 1) (rm8_26 l Z a0 hw [] b88 p0 a_EMPTY b95 T4.heap n0 (Nat.le_trans Z0 KK4.1) u5 u6 g_b88 u7 u8) hZ (tw_38 hw) (tw_9 hw) (by decide) (by decide)) (g := (mkF m 12 #[.val (.int p0), .val (.ref a_INVALID_URL)] [(.ref b95), (.ref a_EMPTY), (.int p0), (.ref b88), (.ref b88)])) rfl (by rw [hml]; rfl) (Steps.refl _) (a := b88) (argsL := [(.int p0), (.ref a_EMPTY), (.ref b95)]) (rest := [(.ref b88)]) (lenOf pd_6 rfl) rfl (by show 2 * 0 + _ ≤ _; exact Nat.le_of_eq rfl) (hb hby d2_12) (fun _ _ => ⟨rfl, rfl, (by decide : 2 + 0 ≤ _), (by decide : 4 + 0 ≤ _)⟩)
  dsimp only [Pt.U, Pt.locs, Pt.cells, Pt.slots] at X9 l9 y9 z9 st9 hQ9
  subst l9 y9 z9
  obtain ⟨rfl, Nq9, K9, o9_0, o9_1, o9_2⟩ := hQ9
  have N9 := Fr.app N4 Nq9
  have KK9 : Keep h0 T9.heap [] := KK4.trans K9 (fun x hx => (List.mem_cons.mp hx).elim (fun q => q ▸ (Or.inr sz_b88)) (fun hx => nomatch hx))
  have u10 : E_2 Z T9.heap b88 := Exa.keep u6 K9
  have u11 : E_1 Z T9.heap b95 := Exa.keep o4_0 K9
  have ne12 : b88 ≠ b95 := Nat.ne_of_lt (Nat.lt_of_lt_of_le (Exa.lt A1) le_b95)
  have u13 : F_0 Z T9.heap b95 (.ref a_INVALID_URL) := Fld.keep o4_1 K9 (own_notin (Ne.symm ne12) List.not_mem_nil)
  obtain ⟨fs, hr, hrun, hended, hW, hsame⟩ := X9.leave (v := (some (.ref b88))) (fun h => by rw [Bd.returns] at h; cases h)
  refine ⟨_, _, castTop (ef2_IR m p0 a_INVALID_URL) ?_, hrun, hended, _, _, rfl, ?_, ⟨_, rfl⟩, hW, hsame.mono (by decide) (by decide)⟩
  · show Steps p.tables e below (s₁.setTop (mkF m 0 #[.val (.int p0), .val (.ref a_INVALID_URL)] [])) _
    refine st1 _ ?_
    refine XS.dup X1.here hx rfl (hb hby d2_3) rfl rfl ?_
    refine XS.iloadN X1.here hx rfl (hb hby d2_4) rfl ?_
    show Steps p.tables e below (T1.setTop (mkF m 5 #[.val (.int p0), .val (.ref a_INVALID_URL)] [(.int p0), (.ref b88), (.ref b88)])) _
    refine st3 _ ?_
    refine XS.aloadN X3.here hx rfl (hb hby d2_8) rfl rfl ?_
    show Steps p.tables e below (T3.setTop (mkF m 9 #[.val (.int p0), .val (.ref a_INVALID_URL)] [(.ref a_INVALID_URL), (.ref a_EMPTY), (.int p0), (.ref b88), (.ref b88)])) _
    refine st4 _ ?_
    show Steps p.tables e below (T4.setTop (mkF m 12 #[.val (.int p0), .val (.ref a_INVALID_URL)] [(.ref b95), (.ref a_EMPTY), (.int p0), (.ref b88), (.ref b88)])) _
    refine st9.trans ?_
    show Steps p.tables e below (T9.setTop (mkF m 15 #[.val (.int p0), .val (.ref a_INVALID_URL)] [(.ref b88)])) _
    jvm_step X9.here [X9.here.top, hx, (hb hby d2_15), X9.method', Bd.returns, Value.isRef, FieldType.isReference]
    first | (intro acts; rw [hr _ acts rfl rfl rfl]) | rw [hr _ _ rfl rfl rfl]
    exact Steps.refl _
  · show Q2_97 Z p0 a_EMPTY a_INVALID_URL h0 n0 _ T9.heap _
    exact ⟨b88, b95, rfl, N9, KK9, sz_b88, sz_b95, u10, o9_0, o9_1, o9_2, u11, u13, ne12⟩
set_option maxRecDepth 65536 in
set_option maxHeartbeats 40000000 in
theorem rm12_100 (l : Launch) (Z : State) (a0 : Array Value) (hw : ∀ d ∈ tables_1, d.before a0 Z = true) (ws : List Jvm.Cond) (c0_a : Addr) (a_INVALID_URL : Addr) (h0 : Heap) (n0 : Nat) (Z0 : n0 ≤ h0.size) (f1 : F_0 Z h0 c0_a (.ref a_INVALID_URL)) :
    MetFree l M_10 (head1 (Jvm.Cond.code M_10 jdk_32_method_6_code 1 (some .boolean) :: ws) R_0_0_0_0) (fun a U => a = #[(.ref c0_a)] ∧ Z.Warmed39 U.vm ∧ U.heap = h0) (fun _ _ _ _ _ => True) (fun _ U o U' => ∃ v L, o = .returned v ∧ QP (some (.int 1)) h0 n0 v U'.heap L ∧ FrameEnd U o U' L R_0_0_0_0.cells R_0_0_0_0.slots) := by
  refine MetFree.of_bodySF (plainFor_of_name pn_java_util_Optional) hisR ?_
  intro p e s m args below meth c s₁ Bd hml0 hP hK
  obtain ⟨rfl, hZ, hh⟩ := hP
  have hx := Bd.exec
  have hby := Bd.bytes
  have hml : c.maxLocals = 1 := hml0
  have hown : s.vm.findClass "java/util/Optional" = some m.cls := findClass_of_methodNamed Bd.named
  have hnm := (name_of_methodNamed Bd.named Bd.method).1
  have X0 : Stand p l e R_0_0_0_0 s m #[(.ref c0_a)] below meth c s₁ [] 0 0 := Stand.of_body Bd
  have e0 : s₁.heap = h0 := by rw [← hh, Bd.state]; rfl
  have N0 := Fr.nil n0
  obtain ⟨T1, X1, e1, st1⟩ := getF X0 hx hZ hown (host := "") (Or.inl (tw_34 hw)) Via.refl e0 f1 (g := (mkF m 1 #[.val (.ref c0_a)] [(.ref c0_a)])) rfl rfl (hb hby d12_1)
  obtain ⟨fs, hr, hrun, hended, hW, hsame⟩ := X1.leave (v := (some (.int 1))) (fun h => by rw [Bd.returns] at h; cases h)
  refine ⟨_, _, castTop (ef12_R m c0_a) ?_, hrun, hended, _, _, rfl, ?_, ⟨_, rfl⟩, hW, hsame.mono (by decide) (by decide)⟩
  · show Steps p.tables e below (s₁.setTop (mkF m 0 #[.val (.ref c0_a)] [])) _
    refine XS.aloadN X0.here hx rfl (hb hby d12_0) rfl rfl ?_
    show Steps p.tables e below (s₁.setTop (mkF m 1 #[.val (.ref c0_a)] [(.ref c0_a)])) _
    refine st1 _ ?_
    refine XS.ifnullNo X1.here hx rfl (hb hby d12_4) rfl ?_
    refine XS.iconst X1.here hx rfl (hb hby d12_7) ?_
    refine XS.goto X1.here hx rfl (pc0 := 8) (pc' := 12) rfl (hb hby d12_8) (by decide) (by decide) ?_
    show Steps p.tables e below (T1.setTop (mkF m 12 #[.val (.ref c0_a)] [(.int 1)])) _
    exact retN X1 hx (t := .boolean) Bd.returns (by simp) (hb hby d12_12) hr
  · show QP (some (.int 1)) h0 n0 _ T1.heap _
    rw [e1]
    exact ⟨rfl, N0, rfl⟩
set_option maxRecDepth 65536 in
set_option maxHeartbeats 40000000 in
theorem rm14_101 (l : Launch) (Z : State) (a0 : Array Value) (hw : ∀ d ∈ tables_1, d.before a0 Z = true) (ws : List Jvm.Cond) (c0_a : Addr) (a_INVALID_URL : Addr) (h0 : Heap) (n0 : Nat) (Z0 : n0 ≤ h0.size) (f1 : F_0 Z h0 c0_a (.ref a_INVALID_URL)) :
    MetFree l M_12 (head1 (Jvm.Cond.code M_12 jdk_32_method_5_code 1 (some (.object "java/lang/Object")) :: ws) R_0_0_0_0) (fun a U => a = #[(.ref c0_a)] ∧ Z.Warmed39 U.vm ∧ U.heap = h0) (fun _ _ _ _ _ => True) (fun _ U o U' => ∃ v L, o = .returned v ∧ QP (some (.ref a_INVALID_URL)) h0 n0 v U'.heap L ∧ FrameEnd U o U' L R_0_0_0_0.cells R_0_0_0_0.slots) := by
  refine MetFree.of_bodySF (plainFor_of_name pn_java_util_Optional) hisR ?_
  intro p e s m args below meth c s₁ Bd hml0 hP hK
  obtain ⟨rfl, hZ, hh⟩ := hP
  have hx := Bd.exec
  have hby := Bd.bytes
  have hml : c.maxLocals = 1 := hml0
  have hown : s.vm.findClass "java/util/Optional" = some m.cls := findClass_of_methodNamed Bd.named
  have hnm := (name_of_methodNamed Bd.named Bd.method).1
  have X0 : Stand p l e R_0_0_0_0 s m #[(.ref c0_a)] below meth c s₁ [] 0 0 := Stand.of_body Bd
  have e0 : s₁.heap = h0 := by rw [← hh, Bd.state]; rfl
  have N0 := Fr.nil n0
  obtain ⟨T1, X1, e1, st1⟩ := getF X0 hx hZ hown (host := "") (Or.inl (tw_34 hw)) Via.refl e0 f1 (g := (mkF m 1 #[.val (.ref c0_a)] [(.ref c0_a)])) rfl rfl (hb hby d14_1)
  obtain ⟨T2, X2, e2, st2⟩ := getF X1 hx hZ hown (host := "") (Or.inl (tw_34 hw)) Via.refl e1 f1 (g := (mkF m 18 #[.val (.ref c0_a)] [(.ref c0_a)])) rfl rfl (hb hby d14_18)
  obtain ⟨fs, hr, hrun, hended, hW, hsame⟩ := X2.leave (v := (some (.ref a_INVALID_URL))) (fun h => by rw [Bd.returns] at h; cases h)
  refine ⟨_, _, castTop (ef14_R m c0_a) ?_, hrun, hended, _, _, rfl, ?_, ⟨_, rfl⟩, hW, hsame.mono (by decide) (by decide)⟩
  · show Steps p.tables e below (s₁.setTop (mkF m 0 #[.val (.ref c0_a)] [])) _
    refine XS.aloadN X0.here hx rfl (hb hby d14_0) rfl rfl ?_
    show Steps p.tables e below (s₁.setTop (mkF m 1 #[.val (.ref c0_a)] [(.ref c0_a)])) _
    refine st1 _ ?_
    refine XS.ifnonnullYes X1.here hx rfl (pc0 := 4) (pc' := 17) rfl (hb hby d14_4) rfl (by decide) (by decide) ?_
    refine XS.aloadN X1.here hx rfl (hb hby d14_17) rfl rfl ?_
    show Steps p.tables e below (T1.setTop (mkF m 18 #[.val (.ref c0_a)] [(.ref c0_a)])) _
    refine st2 _ ?_
    show Steps p.tables e below (T2.setTop (mkF m 21 #[.val (.ref c0_a)] [(.ref a_INVALID_URL)])) _
    jvm_step X2.here [X2.here.top, hx, (hb hby d14_21), X2.method', Bd.returns, Value.isRef, FieldType.isReference]
    first | (intro acts; rw [hr _ acts rfl rfl rfl]) | rw [hr _ _ rfl rfl rfl]
    exact Steps.refl _
  · show QP (some (.ref a_INVALID_URL)) h0 n0 _ T2.heap _
    rw [e2]
    exact ⟨rfl, N0, rfl⟩
set_option maxRecDepth 65536 in
set_option maxHeartbeats 40000000 in
theorem rm0_102 (l : Launch) (Z : State) (a0 : Array Value) (hw : ∀ d ∈ tables_1, d.before a0 Z = true) (ws : List Jvm.Cond) (p0 : Int32) (p1 : Int32) (a_INVALID_URL : Addr) (a_EMPTY : Addr) (h0 : Heap) (n0 : Nat) (Z0 : n0 ≤ h0.size) (f1 : (p1 &&& (7 : Int32)) = (4 : Int32)) (f2 : S_2 Z h0 (.ref a_INVALID_URL)) (f3 : S_8 Z h0 (.ref a_EMPTY)) (f4 : F_0 Z h0 a_EMPTY .null) (f5 : E_1 Z h0 a_EMPTY) :
    MetFree l x (head1 (Jvm.Cond.code x code maxLocals ret :: ws) room_1) (fun a U => a = #[(.int p0), (.int p1)] ∧ Z.Warmed39 U.vm ∧ U.heap = h0) (fun _ _ _ _ _ => True) (fun _ U o U' => ∃ v L, o = .returned v ∧ QT n0 v U'.heap L ∧ FrameEnd U o U' L room_1.cells room_1.slots) := by
  refine MetFree.of_bodySF (plainFor_of_name pn_com_example_corestone_corestone_LineRefusedPinLaw) hisR ?_
  intro p e s m args below meth c s₁ Bd hml0 hP hK
  obtain ⟨rfl, hZ, hh⟩ := hP
  have hx := Bd.exec
  have hby := Bd.bytes
  have hml : c.maxLocals = 4 := hml0
  have hown : s.vm.findClass "com/example/corestone/corestone/LineRefusedPinLaw" = some m.cls := findClass_of_methodNamed Bd.named
  have hnm := (name_of_methodNamed Bd.named Bd.method).1
  have X0 : Stand p l e room_1 s m #[(.int p0), (.int p1)] below meth c s₁ [] 0 0 := Stand.of_body Bd
  have e0 : s₁.heap = h0 := by rw [← hh, Bd.state]; rfl
  have N0 := Fr.nil n0
  -- pc 1: com/example/corestone/corestone/LineRefusedPinLaw.pick
  obtain ⟨_, _, ⟨T1, L1, k1, n1⟩, -, X1, ⟨Lc1, hQ1, l1, y1, z1⟩, st1⟩ := Jvm.LawKit.callS X0 hx (y := M_0) hown (mvT hZ (tw_0 hw)) (mvT hZ (tw_1 hw)) (mvT hZ (tw_2 hw)) (mvT hZ (tw_3 hw)) (by decide) (backOf (W := 0) (rm1_87 l Z a0 hw [] p1 a_INVALID_URL h0 n0 Z0 f1 f2) hZ (tw_3 hw) (tw_2 hw) (by decide) (by decide)) (g := (mkF m 1 #[.val (.int p0), .val (.int p1), .unset, .unset] [(.int p1)])) rfl (by rw [hml]; rfl) (argsL := [(.int p1)]) (rest := []) (lenOf pd_0 rfl) rfl (by show 2 * 0 + _ ≤ _; exact Nat.le_of_eq rfl) (hb hby at_1) (fun _ _ => ⟨rfl, e0, (by decide : 0 + 0 ≤ _), (by decide : 0 + 0 ≤ _)⟩)
  dsimp only [Pt.U, Pt.locs, Pt.cells, Pt.slots] at X1 l1 y1 z1 st1 hQ1
  subst l1 y1 z1
  obtain ⟨rfl, Nq1, e1⟩ := hQ1
  have N1 := Fr.app N0 Nq1
  -- pc 7: com/example/corestone/corestone/BulkRequest$Line.refused
  obtain ⟨_, _, ⟨T2, L2, k2, n2⟩, -, X2, ⟨Lc2, hQ2, l2, y2, z2⟩, st2⟩ := Jvm.LawKit.callS X1 hx (y := M_7) hown (mvT hZ (tw_7 hw)) (mvT hZ (tw_8 hw)) (mvT hZ (tw_9 hw)) (mvT hZ (tw_10 hw)) (by decide) (backOf (W := 0) (rm2_96 l Z a0 hw [] p0 a_INVALID_URL a_EMPTY h0 n0 Z0 f3) hZ (tw_10 hw) (tw_9 hw) (by decide) (by decide)) (g := (mkF m 7 #[.val (.int p0), .val (.int p1), .val (.ref a_INVALID_URL), .unset] [(.ref a_INVALID_URL), (.int p0)])) rfl (by rw [hml]; rfl) (argsL := [(.int p0), (.ref a_INVALID_URL)]) (rest := []) (lenOf pd_7 rfl) rfl (by show 2 * 0 + _ ≤ _; exact Nat.le_of_eq rfl) (hb hby at_7) (fun _ _ => ⟨rfl, e1, (by decide : 0 + 2 ≤ _), (by decide : 0 + 4 ≤ _)⟩)
  dsimp only [Pt.U, Pt.locs, Pt.cells, Pt.slots] at X2 l2 y2 z2 st2 hQ2
  subst l2 y2 z2
  obtain ⟨b98, b99, rfl, Nq2, K2, le_b98, le_b99, o2_0, o2_1, o2_2, o2_3, o2_4, o2_5, o2_6⟩ := hQ2
  have N2 := Fr.app N1 Nq2
  have sz_b98 : h0.size ≤ b98 := Nat.le_trans (Nat.le_refl _) le_b98
  have g_b98 : n0 ≤ b98 := Nat.le_trans Z0 sz_b98
  have sz_b99 : h0.size ≤ b99 := Nat.le_trans (Nat.le_refl _) le_b99
  have g_b99 : n0 ≤ b99 := Nat.le_trans Z0 sz_b99
  have KK2 : Keep h0 T2.heap [] := (Keep.refl h0 []).trans K2 (fun x hx => nomatch hx)
  -- pc 18: com/example/corestone/corestone/BulkRequest$Line.number
  obtain ⟨cq3, kq3, q3a, q3b, q3c⟩ := isOf hZ rfl o2_0
  obtain ⟨_, _, ⟨T3, L3, k3, n3⟩, -, X3, ⟨Lc3, hQ3, l3, y3, z3⟩, st3⟩ := X2.virtualBack hx (y := M_8) (z := M_8) hown (mvT hZ (tw_51 hw)) (mvT hZ (tw_52 hw)) (notFace_of_selects (args := #[]) (mvT hZ (tw_54 hw))) (mvT hZ (tw_54 hw)) (mvT hZ (tw_53 hw)) (by decide) (backOf (W := 0) (rm10_32 l Z a0 hw [] b98 p0 T2.heap n0 (Nat.le_trans Z0 KK2.1) o2_1) hZ (tw_55 hw) (tw_9 hw) (by decide) (by decide)) q3a q3c (g := (mkF m 18 #[.val (.int p0), .val (.int p1), .val (.ref a_INVALID_URL), .val (.ref b98)] [(.ref b98)])) rfl (by rw [hml]; rfl) (Steps.refl _) (argsL := []) (rest := []) (lenOf pd_8 rfl) rfl (by show 2 * 0 + _ ≤ _; exact Nat.le_of_eq rfl) (hb hby at_18) (fun _ _ => ⟨rfl, rfl, (by decide : 2 + 0 ≤ _), (by decide : 4 + 0 ≤ _)⟩)
  dsimp only [Pt.U, Pt.locs, Pt.cells, Pt.slots] at X3 l3 y3 z3 st3 hQ3
  subst l3 y3 z3
  obtain ⟨rfl, Nq3, e3⟩ := hQ3
  have N3 := Fr.app N2 Nq3
  -- pc 28: com/example/corestone/corestone/BulkRequest$Line.handle
  obtain ⟨cq4, kq4, q4a, q4b, q4c⟩ := isOf hZ e3 o2_0
  obtain ⟨_, _, ⟨T4, L4, k4, n4⟩, -, X4, ⟨Lc4, hQ4, l4, y4, z4⟩, st4⟩ := X3.virtualBack hx (y := M_9) (z := M_9) hown (mvT hZ (tw_56 hw)) (mvT hZ (tw_57 hw)) (notFace_of_selects (args := #[]) (mvT hZ (tw_59 hw))) (mvT hZ (tw_59 hw)) (mvT hZ (tw_58 hw)) (by decide) (backOf (W := 0) (rm11_33 l Z a0 hw [] b98 a_EMPTY T2.heap n0 (Nat.le_trans Z0 KK2.1) o2_2) hZ (tw_60 hw) (tw_9 hw) (by decide) (by decide)) q4a q4c (g := (mkF m 28 #[.val (.int p0), .val (.int p1), .val (.ref a_INVALID_URL), .val (.ref b98)] [(.ref b98)])) rfl (by rw [hml]; rfl) (Steps.refl _) (argsL := []) (rest := []) (lenOf pd_1 rfl) rfl (by show 2 * 0 + _ ≤ _; exact Nat.le_of_eq rfl) (hb hby at_28) (fun _ _ => ⟨rfl, e3, (by decide : 2 + 0 ≤ _), (by decide : 4 + 0 ≤ _)⟩)
  dsimp only [Pt.U, Pt.locs, Pt.cells, Pt.slots] at X4 l4 y4 z4 st4 hQ4
  subst l4 y4 z4
  obtain ⟨rfl, Nq4, e4⟩ := hQ4
  have N4 := Fr.app N3 Nq4
  -- pc 35: com/example/corestone/corestone/BulkRequest$Line.handle
  obtain ⟨cq5, kq5, q5a, q5b, q5c⟩ := isOf hZ e4 o2_0
  obtain ⟨_, _, ⟨T5, L5, k5, n5⟩, -, X5, ⟨Lc5, hQ5, l5, y5, z5⟩, st5⟩ := X4.virtualBack hx (y := M_9) (z := M_9) hown (mvT hZ (tw_56 hw)) (mvT hZ (tw_57 hw)) (notFace_of_selects (args := #[]) (mvT hZ (tw_59 hw))) (mvT hZ (tw_59 hw)) (mvT hZ (tw_58 hw)) (by decide) (backOf (W := 0) (rm11_33 l Z a0 hw [] b98 a_EMPTY T2.heap n0 (Nat.le_trans Z0 KK2.1) o2_2) hZ (tw_60 hw) (tw_9 hw) (by decide) (by decide)) q5a q5c (g := (mkF m 35 #[.val (.int p0), .val (.int p1), .val (.ref a_INVALID_URL), .val (.ref b98)] [(.ref b98)])) rfl (by rw [hml]; rfl) (Steps.refl _) (argsL := []) (rest := []) (lenOf pd_1 rfl) rfl (by show 2 * 0 + _ ≤ _; exact Nat.le_of_eq rfl) (hb hby at_35) (fun _ _ => ⟨rfl, e4, (by decide : 2 + 0 ≤ _), (by decide : 4 + 0 ≤ _)⟩)
  dsimp only [Pt.U, Pt.locs, Pt.cells, Pt.slots] at X5 l5 y5 z5 st5 hQ5
  subst l5 y5 z5
  obtain ⟨rfl, Nq5, e5⟩ := hQ5
  have N5 := Fr.app N4 Nq5
  -- pc 38: java/util/Optional.isPresent
  have u6 : F_0 Z T2.heap a_EMPTY .null := Fld.keep f4 K2 List.not_mem_nil
  have u8 : E_1 Z T2.heap a_EMPTY := Exa.keep f5 K2
  obtain ⟨cq7, kq7, q7a, q7b, q7c⟩ := isOf hZ e5 u8
  obtain ⟨_, _, ⟨T7, L7, k7, n7⟩, -, X7, ⟨Lc7, hQ7, l7, y7, z7⟩, st7⟩ := X5.virtualBack hx (y := M_10) (z := M_10) hown (mvT hZ (tw_61 hw)) (mvT hZ (tw_62 hw)) (notFace_of_selects (args := #[]) (mvT hZ (tw_64 hw))) (mvT hZ (tw_64 hw)) (mvT hZ (tw_63 hw)) (by decide) (backOf (W := 0) (rm12_34 l Z a0 hw [] a_EMPTY T2.heap n0 (Nat.le_trans Z0 KK2.1) u6) hZ (tw_65 hw) (tw_15 hw) (by decide) (by decide)) q7a q7c (g := (mkF m 38 #[.val (.int p0), .val (.int p1), .val (.ref a_INVALID_URL), .val (.ref b98)] [(.ref a_EMPTY)])) rfl (by rw [hml]; rfl) (Steps.refl _) (argsL := []) (rest := []) (lenOf pd_9 rfl) rfl (by show 2 * 0 + _ ≤ _; exact Nat.le_of_eq rfl) (hb hby at_38) (fun _ _ => ⟨rfl, e5, (by decide : 2 + 0 ≤ _), (by decide : 4 + 0 ≤ _)⟩)
  dsimp only [Pt.U, Pt.locs, Pt.cells, Pt.slots] at X7 l7 y7 z7 st7 hQ7
  subst l7 y7 z7
  obtain ⟨rfl, Nq7, e7⟩ := hQ7
  have N7 := Fr.app N5 Nq7
  -- pc 47: com/example/corestone/corestone/BulkRequest$Line.refusal
  obtain ⟨cq9, kq9, q9a, q9b, q9c⟩ := isOf hZ e7 o2_0
  obtain ⟨_, _, ⟨T9, L9, k9, n9⟩, -, X9, ⟨Lc9, hQ9, l9, y9, z9⟩, st9⟩ := X7.virtualBack hx (y := M_11) (z := M_11) hown (mvT hZ (tw_66 hw)) (mvT hZ (tw_67 hw)) (notFace_of_selects (args := #[]) (mvT hZ (tw_69 hw))) (mvT hZ (tw_69 hw)) (mvT hZ (tw_68 hw)) (by decide) (backOf (W := 0) (rm13_35 l Z a0 hw [] b98 b99 T2.heap n0 (Nat.le_trans Z0 KK2.1) o2_3) hZ (tw_70 hw) (tw_9 hw) (by decide) (by decide)) q9a q9c (g := (mkF m 47 #[.val (.int p0), .val (.int p1), .val (.ref a_INVALID_URL), .val (.ref b98)] [(.ref b98)])) rfl (by rw [hml]; rfl) (Steps.refl _) (argsL := []) (rest := []) (lenOf pd_1 rfl) rfl (by show 2 * 0 + _ ≤ _; exact Nat.le_of_eq rfl) (hb hby at_47) (fun _ _ => ⟨rfl, e7, (by decide : 2 + 0 ≤ _), (by decide : 4 + 0 ≤ _)⟩)
  dsimp only [Pt.U, Pt.locs, Pt.cells, Pt.slots] at X9 l9 y9 z9 st9 hQ9
  subst l9 y9 z9
  obtain ⟨rfl, Nq9, e9⟩ := hQ9
  have N9 := Fr.app N7 Nq9
  -- pc 54: com/example/corestone/corestone/BulkRequest$Line.refusal
  obtain ⟨cq10, kq10, q10a, q10b, q10c⟩ := isOf hZ e9 o2_0
  obtain ⟨_, _, ⟨T10, L10, k10, n10⟩, -, X10, ⟨Lc10, hQ10, l10, y10, z10⟩, st10⟩ := X9.virtualBack hx (y := M_11) (z := M_11) hown (mvT hZ (tw_66 hw)) (mvT hZ (tw_67 hw)) (notFace_of_selects (args := #[]) (mvT hZ (tw_69 hw))) (mvT hZ (tw_69 hw)) (mvT hZ (tw_68 hw)) (by decide) (backOf (W := 0) (rm13_35 l Z a0 hw [] b98 b99 T2.heap n0 (Nat.le_trans Z0 KK2.1) o2_3) hZ (tw_70 hw) (tw_9 hw) (by decide) (by decide)) q10a q10c (g := (mkF m 54 #[.val (.int p0), .val (.int p1), .val (.ref a_INVALID_URL), .val (.ref b98)] [(.ref b98)])) rfl (by rw [hml]; rfl) (Steps.refl _) (argsL := []) (rest := []) (lenOf pd_1 rfl) rfl (by show 2 * 0 + _ ≤ _; exact Nat.le_of_eq rfl) (hb hby at_54) (fun _ _ => ⟨rfl, e9, (by decide : 2 + 0 ≤ _), (by decide : 4 + 0 ≤ _)⟩)
  dsimp only [Pt.U, Pt.locs, Pt.cells, Pt.slots] at X10 l10 y10 z10 st10 hQ10
  subst l10 y10 z10
  obtain ⟨rfl, Nq10, e10⟩ := hQ10
  have N10 := Fr.app N9 Nq10
  -- pc 57: java/util/Optional.isPresent
  obtain ⟨cq11, kq11, q11a, q11b, q11c⟩ := isOf hZ e10 o2_4
  obtain ⟨_, _, ⟨T11, L11, k11, n11⟩, -, X11, ⟨Lc11, hQ11, l11, y11, z11⟩, st11⟩ := X10.virtualBack hx (y := M_10) (z := M_10) hown (mvT hZ (tw_61 hw)) (mvT hZ (tw_62 hw)) (notFace_of_selects (args := #[]) (mvT hZ (tw_64 hw))) (mvT hZ (tw_64 hw)) (mvT hZ (tw_63 hw)) (by decide) (backOf (W := 0) (rm12_100 l Z a0 hw [] b99 a_INVALID_URL T2.heap n0 (Nat.le_trans Z0 KK2.1) o2_5) hZ (tw_65 hw) (tw_15 hw) (by decide) (by decide)) q11a q11c (g := (mkF m 57 #[.val (.int p0), .val (.int p1), .val (.ref a_INVALID_URL), .val (.ref b98)] [(.ref b99)])) rfl (by rw [hml]; rfl) (Steps.refl _) (argsL := []) (rest := []) (lenOf pd_9 rfl) rfl (by show 2 * 0 + _ ≤ _; exact Nat.le_of_eq rfl) (hb hby at_57) (fun _ _ => ⟨rfl, e10, (by decide : 2 + 0 ≤ _), (by decide : 4 + 0 ≤ _)⟩)
  dsimp only [Pt.U, Pt.locs, Pt.cells, Pt.slots] at X11 l11 y11 z11 st11 hQ11
  subst l11 y11 z11
  obtain ⟨rfl, Nq11, e11⟩ := hQ11
  have N11 := Fr.app N10 Nq11
  -- pc 66: com/example/corestone/corestone/BulkRequest$Line.refusal
  obtain ⟨cq12, kq12, q12a, q12b, q12c⟩ := isOf hZ e11 o2_0
  obtain ⟨_, _, ⟨T12, L12, k12, n12⟩, -, X12, ⟨Lc12, hQ12, l12, y12, z12⟩, st12⟩ := X11.virtualBack hx (y := M_11) (z := M_11) hown (mvT hZ (tw_66 hw)) (mvT hZ (tw_67 hw)) (notFace_of_selects (args := #[]) (mvT hZ (tw_69 hw))) (mvT hZ (tw_69 hw)) (mvT hZ (tw_68 hw)) (by decide) (backOf (W := 0) (rm13_35 l Z a0 hw [] b98 b99 T2.heap n0 (Nat.le_trans Z0 KK2.1) o2_3) hZ (tw_70 hw) (tw_9 hw) (by decide) (by decide)) q12a q12c (g := (mkF m 66 #[.val (.int p0), .val (.int p1), .val (.ref a_INVALID_URL), .val (.ref b98)] [(.ref b98)])) rfl (by rw [hml]; rfl) (Steps.refl _) (argsL := []) (rest := []) (lenOf pd_1 rfl) rfl (by show 2 * 0 + _ ≤ _; exact Nat.le_of_eq rfl) (hb hby at_66) (fun _ _ => ⟨rfl, e11, (by decide : 2 + 0 ≤ _), (by decide : 4 + 0 ≤ _)⟩)
  dsimp only [Pt.U, Pt.locs, Pt.cells, Pt.slots] at X12 l12 y12 z12 st12 hQ12
  subst l12 y12 z12
  obtain ⟨rfl, Nq12, e12⟩ := hQ12
  have N12 := Fr.app N11 Nq12
  -- pc 69: java/util/Optional.get
  obtain ⟨cq13, kq13, q13a, q13b, q13c⟩ := isOf hZ e12 o2_4
  obtain ⟨_, _, ⟨T13, L13, k13, n13⟩, -, X13, ⟨Lc13, hQ13, l13, y13, z13⟩, st13⟩ := X12.virtualBack hx (y := M_12) (z := M_12) hown (mvT hZ (tw_71 hw)) (mvT hZ (tw_72 hw)) (notFace_of_selects (args := #[]) (mvT hZ (tw_74 hw))) (mvT hZ (tw_74 hw)) (mvT hZ (tw_73 hw)) (by decide) (backOf (W := 0) (rm14_101 l Z a0 hw [] b99 a_INVALID_URL T2.heap n0 (Nat.le_trans Z0 KK2.1) o2_5) hZ (tw_75 hw) (tw_15 hw) (by decide) (by decide)) q13a q13c (g := (mkF m 69 #[.val (.int p0), .val (.int p1), .val (.ref a_INVALID_URL), .val (.ref b98)] [(.ref b99)])) rfl (by rw [hml]; rfl) (Steps.refl _) (argsL := []) (rest := []) (lenOf pd_10 rfl) rfl (by show 2 * 0 + _ ≤ _; exact Nat.le_of_eq rfl) (hb hby at_69) (fun _ _ => ⟨rfl, e12, (by decide : 2 + 0 ≤ _), (by decide : 4 + 0 ≤ _)⟩)
  dsimp only [Pt.U, Pt.locs, Pt.cells, Pt.slots] at X13 l13 y13 z13 st13 hQ13
  subst l13 y13 z13
  obtain ⟨rfl, Nq13, e13⟩ := hQ13
  have N13 := Fr.app N12 Nq13
  obtain ⟨fs, hr, hrun, hended, hW, hsame⟩ := X13.leave (v := (some (.int 1))) (fun h => by rw [Bd.returns] at h; cases h)
  refine ⟨_, _, castTop (ef0_II m p0 p1) ?_, hrun, hended, _, _, rfl, ?_, ⟨_, rfl⟩, hW, hsame.mono (by decide) (by decide)⟩
  · show Steps p.tables e below (s₁.setTop (mkF m 0 #[.val (.int p0), .val (.int p1), .unset, .unset] [])) _
    refine XS.iloadN X0.here hx rfl (hb hby at_0) rfl ?_
    show Steps p.tables e below (s₁.setTop (mkF m 1 #[.val (.int p0), .val (.int p1), .unset, .unset] [(.int p1)])) _
    refine st1 _ ?_
    refine XS.astoreN X1.here hx rfl (hb hby at_4) rfl rfl (l' := #[.val (.int p0), .val (.int p1), .val (.ref a_INVALID_URL), .unset]) rfl ?_
    refine XS.iloadN X1.here hx rfl (hb hby at_5) rfl ?_
    refine XS.aloadN X1.here hx rfl (hb hby at_6) rfl rfl ?_
    show Steps p.tables e below (T1.setTop (mkF m 7 #[.val (.int p0), .val (.int p1), .val (.ref a_INVALID_URL), .unset] [(.ref a_INVALID_URL), (.int p0)])) _
    refine st2 _ ?_
    refine XS.astoreN X2.here hx rfl (hb hby at_10) rfl rfl (l' := #[.val (.int p0), .val (.int p1), .val (.ref a_INVALID_URL), .val (.ref b98)]) rfl ?_
    refine XS.aloadN X2.here hx rfl (hb hby at_11) rfl rfl ?_
    refine XS.ifnonnullYes X2.here hx rfl (pc0 := 12) (pc' := 17) rfl (hb hby at_12) rfl (by decide) (by decide) ?_
    refine XS.aloadN X2.here hx rfl (hb hby at_17) rfl rfl ?_
    show Steps p.tables e below (T2.setTop (mkF m 18 #[.val (.int p0), .val (.int p1), .val (.ref a_INVALID_URL), .val (.ref b98)] [(.ref b98)])) _
    refine st3.trans ?_
    refine XS.iloadN X3.here hx rfl (hb hby at_21) rfl ?_
    refine XS.icmpYes X3.here hx rfl (pc0 := 22) (pc' := 27) rfl (hb hby at_22) rfl (teq (rfl : p0 = p0)).1 (by decide) (by decide) ?_
    refine XS.aloadN X3.here hx rfl (hb hby at_27) rfl rfl ?_
    show Steps p.tables e below (T3.setTop (mkF m 28 #[.val (.int p0), .val (.int p1), .val (.ref a_INVALID_URL), .val (.ref b98)] [(.ref b98)])) _
    refine st4.trans ?_
    refine XS.ifnullNo X4.here hx rfl (hb hby at_31) rfl ?_
    refine XS.aloadN X4.here hx rfl (hb hby at_34) rfl rfl ?_
    show Steps p.tables e below (T4.setTop (mkF m 35 #[.val (.int p0), .val (.int p1), .val (.ref a_INVALID_URL), .val (.ref b98)] [(.ref b98)])) _
    refine st5.trans ?_
    show Steps p.tables e below (T5.setTop (mkF m 38 #[.val (.int p0), .val (.int p1), .val (.ref a_INVALID_URL), .val (.ref b98)] [(.ref a_EMPTY)])) _
    refine st7.trans ?_
    refine XS.ifYes X7.here hx rfl (pc0 := 41) (pc' := 46) rfl (hb hby at_41) rfl (by decide) (by decide) (by decide) ?_
    refine XS.aloadN X7.here hx rfl (hb hby at_46) rfl rfl ?_
    show Steps p.tables e below (T7.setTop (mkF m 47 #[.val (.int p0), .val (.int p1), .val (.ref a_INVALID_URL), .val (.ref b98)] [(.ref b98)])) _
    refine st9.trans ?_
    refine XS.ifnullNo X9.here hx rfl (hb hby at_50) rfl ?_
    refine XS.aloadN X9.here hx rfl (hb hby at_53) rfl rfl ?_
    show Steps p.tables e below (T9.setTop (mkF m 54 #[.val (.int p0), .val (.int p1), .val (.ref a_INVALID_URL), .val (.ref b98)] [(.ref b98)])) _
    refine st10.trans ?_
    show Steps p.tables e below (T10.setTop (mkF m 57 #[.val (.int p0), .val (.int p1), .val (.ref a_INVALID_URL), .val (.ref b98)] [(.ref b99)])) _
    refine st11.trans ?_
    refine XS.ifYes X11.here hx rfl (pc0 := 60) (pc' := 65) rfl (hb hby at_60) rfl (by decide) (by decide) (by decide) ?_
    refine XS.aloadN X11.here hx rfl (hb hby at_65) rfl rfl ?_
    show Steps p.tables e below (T11.setTop (mkF m 66 #[.val (.int p0), .val (.int p1), .val (.ref a_INVALID_URL), .val (.ref b98)] [(.ref b98)])) _
    refine st12.trans ?_
    show Steps p.tables e below (T12.setTop (mkF m 69 #[.val (.int p0), .val (.int p1), .val (.ref a_INVALID_URL), .val (.ref b98)] [(.ref b99)])) _
    refine st13.trans ?_
    refine XS.aloadN X13.here hx rfl (hb hby at_72) rfl rfl ?_
    show Steps p.tables e below (T13.setTop (mkF m 73 #[.val (.int p0), .val (.int p1), .val (.ref a_INVALID_URL), .val (.ref b98)] [(.ref a_INVALID_URL), (.ref a_INVALID_URL)])) _
    refine Jvm.RoadKit.acmp (g := (mkF m 73 #[.val (.int p0), .val (.int p1), .val (.ref a_INVALID_URL), .val (.ref b98)] [(.ref a_INVALID_URL), (.ref a_INVALID_URL)])) X13 hx rfl rfl rfl (pc0 := 73) (pc' := 76) (same := true) rfl (hb hby at_73) rfl (decide_eq_true rfl) (by decide) (by decide) ?_
    refine XS.iconst X13.here hx rfl (hb hby at_76) ?_
    refine XS.goto X13.here hx rfl (pc0 := 77) (pc' := 81) rfl (hb hby at_77) (by decide) (by decide) ?_
    show Steps p.tables e below (T13.setTop (mkF m 81 #[.val (.int p0), .val (.int p1), .val (.ref a_INVALID_URL), .val (.ref b98)] [(.int 1)])) _
    exact retN X13 hx (t := .boolean) Bd.returns (by simp) (hb hby at_81) hr
  · show QT n0 _ T13.heap _
    rw [e13]
    exact ⟨rfl, N13⟩
theorem d1_49 : decode method_2_code 49 = .ok (.iload_n 1, 1) := by decide +kernel
theorem d1_50 : decode method_2_code 50 = .ok (.iconst 5, 1) := by decide +kernel
theorem d1_51 : decode method_2_code 51 = .ok (.if_icmp .ne 7, 3) := by decide +kernel
theorem d1_54 : decode method_2_code 54 = .ok (.getstatic 25, 3) := by decide +kernel
theorem tw_82 {a0 : Array Value} {Z : State} (hw : ∀ d ∈ tables_1, d.before a0 Z = true) : (Jvm.Cond.fieldLink "com/example/corestone/corestone/LineRefusedPinLaw" (25 : Nat) "com/example/corestone/corestone/RefusedException$Refusal" "WRONG_DOMAIN" "Lcom/example/corestone/corestone/RefusedException$Refusal;").before a0 Z = true := hw _ (List.mem_of_getElem? (i := 82) rfl)
theorem d1_57 : decode method_2_code 57 = .ok (.areturn, 1) := by decide +kernel
set_option maxRecDepth 65536 in
set_option maxHeartbeats 40000000 in
theorem rm1_103 (l : Launch) (Z : State) (a0 : Array Value) (hw : ∀ d ∈ tables_1, d.before a0 Z = true) (ws : List Jvm.Cond) (p1 : Int32) (a_WRONG_DOMAIN : Addr) (h0 : Heap) (n0 : Nat) (Z0 : n0 ≤ h0.size) (f1 : (p1 &&& (7 : Int32)) = (5 : Int32)) (f2 : S_4 Z h0 (.ref a_WRONG_DOMAIN)) :
    MetFree l M_0 (head1 (Jvm.Cond.code M_0 method_2_code 2 (some (.object "com/example/corestone/corestone/RefusedException$Refusal")) :: ws) R_0_0_0_0) (fun a U => a = #[(.int p1)] ∧ Z.Warmed39 U.vm ∧ U.heap = h0) (fun _ _ _ _ _ => True) (fun _ U o U' => ∃ v L, o = .returned v ∧ QP (some (.ref a_WRONG_DOMAIN)) h0 n0 v U'.heap L ∧ FrameEnd U o U' L R_0_0_0_0.cells R_0_0_0_0.slots) := by
  refine MetFree.of_bodySF (plainFor_of_name pn_com_example_corestone_corestone_LineRefusedPinLaw) hisR ?_
  intro p e s m args below meth c s₁ Bd hml0 hP hK
  obtain ⟨rfl, hZ, hh⟩ := hP
  have hx := Bd.exec
  have hby := Bd.bytes
  have hml : c.maxLocals = 2 := hml0
  have hown : s.vm.findClass "com/example/corestone/corestone/LineRefusedPinLaw" = some m.cls := findClass_of_methodNamed Bd.named
  have hnm := (name_of_methodNamed Bd.named Bd.method).1
  have X0 : Stand p l e R_0_0_0_0 s m #[(.int p1)] below meth c s₁ [] 0 0 := Stand.of_body Bd
  have e0 : s₁.heap = h0 := by rw [← hh, Bd.state]; rfl
  have N0 := Fr.nil n0
  obtain ⟨T1, X1, e1, st1⟩ := getS2 X0 hx hZ hown (host := "") (Or.inl (tw_82 hw)) Via.refl e0 f2 (g := (mkF m 54 #[.val (.int p1), .val (.int 5)] [])) rfl (hb hby d1_54)
  obtain ⟨fs, hr, hrun, hended, hW, hsame⟩ := X1.leave (v := (some (.ref a_WRONG_DOMAIN))) (fun h => by rw [Bd.returns] at h; cases h)
  refine ⟨_, _, castTop (ef1_I m p1) ?_, hrun, hended, _, _, rfl, ?_, ⟨_, rfl⟩, hW, hsame.mono (by decide) (by decide)⟩
  · show Steps p.tables e below (s₁.setTop (mkF m 0 #[.val (.int p1), .unset] [])) _
    refine XS.iloadN X0.here hx rfl (hb hby d1_0) rfl ?_
    refine XS.bipush X0.here hx rfl (hb hby d1_1) ?_
    show Steps p.tables e below (s₁.setTop (mkF m 3 #[.val (.int p1), .unset] [(.int 7), (.int p1)])) _
    refine XS.iand X0.here hx rfl (hb hby d1_3) rfl ?_
    show Steps p.tables e below (s₁.setTop (mkF m 4 #[.val (.int p1), .unset] [(.int (p1 &&& (7 : Int32)))])) _
    rw [f1]
    refine XS.istoreN X0.here hx rfl (hb hby d1_4) rfl (l' := #[.val (.int p1), .val (.int 5)]) rfl ?_
    refine XS.iloadN X0.here hx rfl (hb hby d1_5) rfl ?_
    refine XS.ifYes X0.here hx rfl (pc0 := 6) (pc' := 13) rfl (hb hby d1_6) rfl (by decide) (by decide) (by decide) ?_
    refine XS.iloadN X0.here hx rfl (hb hby d1_13) rfl ?_
    show Steps p.tables e below (s₁.setTop (mkF m 14 #[.val (.int p1), .val (.int 5)] [(.int 5)])) _
    refine XS.iconst X0.here hx rfl (hb hby d1_14) ?_
    refine XS.icmpYes X0.here hx rfl (pc0 := 15) (pc' := 22) rfl (hb hby d1_15) rfl (by decide) (by decide) (by decide) ?_
    refine XS.iloadN X0.here hx rfl (hb hby d1_22) rfl ?_
    refine XS.iconst X0.here hx rfl (hb hby d1_23) ?_
    refine XS.icmpYes X0.here hx rfl (pc0 := 24) (pc' := 31) rfl (hb hby d1_24) rfl (by decide) (by decide) (by decide) ?_
    show Steps p.tables e below (s₁.setTop (mkF m 31 #[.val (.int p1), .val (.int 5)] [])) _
    refine XS.iloadN X0.here hx rfl (hb hby d1_31) rfl ?_
    refine XS.iconst X0.here hx rfl (hb hby d1_32) ?_
    refine XS.icmpYes X0.here hx rfl (pc0 := 33) (pc' := 40) rfl (hb hby d1_33) rfl (by decide) (by decide) (by decide) ?_
    refine XS.iloadN X0.here hx rfl (hb hby d1_40) rfl ?_
    refine XS.iconst X0.here hx rfl (hb hby d1_41) ?_
    show Steps p.tables e below (s₁.setTop (mkF m 42 #[.val (.int p1), .val (.int 5)] [(.int 4), (.int 5)])) _
    refine XS.icmpYes X0.here hx rfl (pc0 := 42) (pc' := 49) rfl (hb hby d1_42) rfl (by decide) (by decide) (by decide) ?_
    refine XS.iloadN X0.here hx rfl (hb hby d1_49) rfl ?_
    refine XS.iconst X0.here hx rfl (hb hby d1_50) ?_
    refine XS.icmpNo X0.here hx rfl (hb hby d1_51) rfl (by decide) ?_
    show Steps p.tables e below (s₁.setTop (mkF m 54 #[.val (.int p1), .val (.int 5)] [])) _
    refine st1 _ ?_
    show Steps p.tables e below (T1.setTop (mkF m 57 #[.val (.int p1), .val (.int 5)] [(.ref a_WRONG_DOMAIN)])) _
    jvm_step X1.here [X1.here.top, hx, (hb hby d1_57), X1.method', Bd.returns, Value.isRef, FieldType.isReference]
    first | (intro acts; rw [hr _ acts rfl rfl rfl]) | rw [hr _ _ rfl rfl rfl]
    exact Steps.refl _
  · show QP (some (.ref a_WRONG_DOMAIN)) h0 n0 _ T1.heap _
    rw [e1]
    exact ⟨rfl, N0, rfl⟩
set_option maxRecDepth 65536 in
set_option maxHeartbeats 40000000 in
theorem rm5_106 (l : Launch) (Z : State) (a0 : Array Value) (hw : ∀ d ∈ tables_1, d.before a0 Z = true) (ws : List Jvm.Cond) (a_WRONG_DOMAIN : Addr) (h0 : Heap) (n0 : Nat) (Z0 : n0 ≤ h0.size) :
    MetFree l M_2 (head1 (Jvm.Cond.code M_2 jdk_31_method_10_code 1 (some (.object "java/lang/Object")) :: ws) R_0_0_0_0) (fun a U => a = #[(.ref a_WRONG_DOMAIN)] ∧ Z.Warmed39 U.vm ∧ U.heap = h0) (fun _ _ _ _ _ => True) (fun _ U o U' => ∃ v L, o = .returned v ∧ QP (some (.ref a_WRONG_DOMAIN)) h0 n0 v U'.heap L ∧ FrameEnd U o U' L R_0_0_0_0.cells R_0_0_0_0.slots) := by
  refine MetFree.of_bodySF (plainFor_of_name pn_java_util_Objects) hisR ?_
  intro p e s m args below meth c s₁ Bd hml0 hP hK
  obtain ⟨rfl, hZ, hh⟩ := hP
  have hx := Bd.exec
  have hby := Bd.bytes
  have hml : c.maxLocals = 1 := hml0
  have hown : s.vm.findClass "java/util/Objects" = some m.cls := findClass_of_methodNamed Bd.named
  have hnm := (name_of_methodNamed Bd.named Bd.method).1
  have X0 : Stand p l e R_0_0_0_0 s m #[(.ref a_WRONG_DOMAIN)] below meth c s₁ [] 0 0 := Stand.of_body Bd
  have e0 : s₁.heap = h0 := by rw [← hh, Bd.state]; rfl
  have N0 := Fr.nil n0
  obtain ⟨fs, hr, hrun, hended, hW, hsame⟩ := X0.leave (v := (some (.ref a_WRONG_DOMAIN))) (fun h => by rw [Bd.returns] at h; cases h)
  refine ⟨_, _, castTop (ef5_R m a_WRONG_DOMAIN) ?_, hrun, hended, _, _, rfl, ?_, ⟨_, rfl⟩, hW, hsame.mono (by decide) (by decide)⟩
  · show Steps p.tables e below (s₁.setTop (mkF m 0 #[.val (.ref a_WRONG_DOMAIN)] [])) _
    refine XS.aloadN X0.here hx rfl (hb hby d5_0) rfl rfl ?_
    refine XS.ifnonnullYes X0.here hx rfl (pc0 := 1) (pc' := 12) rfl (hb hby d5_1) rfl (by decide) (by decide) ?_
    refine XS.aloadN X0.here hx rfl (hb hby d5_12) rfl rfl ?_
    show Steps p.tables e below (s₁.setTop (mkF m 13 #[.val (.ref a_WRONG_DOMAIN)] [(.ref a_WRONG_DOMAIN)])) _
    jvm_step X0.here [X0.here.top, hx, (hb hby d5_13), X0.method', Bd.returns, Value.isRef, FieldType.isReference]
    first | (intro acts; rw [hr _ acts rfl rfl rfl]) | rw [hr _ _ rfl rfl rfl]
    exact Steps.refl _
  · show QP (some (.ref a_WRONG_DOMAIN)) h0 n0 _ s₁.heap _
    rw [e0]
    exact ⟨rfl, N0, rfl⟩
def Q6_108 (Z : State) (c0_a : Addr) (a_WRONG_DOMAIN : Addr) (h0 : Heap) (n0 : Nat) (v : Option Value) (h : Heap) (L : List Loc) : Prop := v = none ∧ Fr n0 L ∧ Keep h0 h [c0_a] ∧ F_0 Z h c0_a (.ref a_WRONG_DOMAIN)
set_option maxRecDepth 65536 in
set_option maxHeartbeats 40000000 in
theorem rm6_107 (l : Launch) (Z : State) (a0 : Array Value) (hw : ∀ d ∈ tables_1, d.before a0 Z = true) (ws : List Jvm.Cond) (c0_a : Addr) (a_WRONG_DOMAIN : Addr) (h0 : Heap) (n0 : Nat) (Z0 : n0 ≤ h0.size) (f1 : F_0 Z h0 c0_a .null) (f2 : E_1 Z h0 c0_a) (f3 : n0 ≤ c0_a) :
    MetFree l M_3 (head1 (Jvm.Cond.code M_3 jdk_32_method_2_code 2 none :: ws) R_1_0_0_12) (fun a U => a = #[(.ref c0_a), (.ref a_WRONG_DOMAIN)] ∧ Z.Warmed39 U.vm ∧ U.heap = h0) (fun _ _ _ _ _ => True) (fun _ U o U' => ∃ v L, o = .returned v ∧ Q6_108 Z c0_a a_WRONG_DOMAIN h0 n0 v U'.heap L ∧ FrameEnd U o U' L R_1_0_0_12.cells R_1_0_0_12.slots) := by
  refine MetFree.of_bodySF (plainFor_of_name pn_java_util_Optional) hisR ?_
  intro p e s m args below meth c s₁ Bd hml0 hP hK
  obtain ⟨rfl, hZ, hh⟩ := hP
  have hx := Bd.exec
  have hby := Bd.bytes
  have hml : c.maxLocals = 2 := hml0
  have hown : s.vm.findClass "java/util/Optional" = some m.cls := findClass_of_methodNamed Bd.named
  have hnm := (name_of_methodNamed Bd.named Bd.method).1
  have X0 : Stand p l e R_1_0_0_12 s m #[(.ref c0_a), (.ref a_WRONG_DOMAIN)] below meth c s₁ [] 0 0 := Stand.of_body Bd
  have e0 : s₁.heap = h0 := by rw [← hh, Bd.state]; rfl
  have N0 := Fr.nil n0
  obtain ⟨T1, X1, e1, st1⟩ := initO X0 hx hZ hown (tw_31 hw) (tw_32 hw) (tw_33 hw) e0 (g := (mkF m 1 #[.val (.ref c0_a), .val (.ref a_WRONG_DOMAIN)] [(.ref c0_a)])) rfl (by rw [hml]; rfl) rfl (hb hby d6_1) (by decide) (W := 0) (by show 2 * 0 + _ ≤ _; exact Nat.le_of_eq rfl) (by decide)
  obtain ⟨T2, h2, X2, e2, W2, st2⟩ := putF X1 hx hZ hown (host := "") (Or.inl (tw_34 hw)) Via.refl e1 f1 f2 (Or.inr ⟨(tw_35 hw), rfl, hnm⟩) (tw_22 hw) (ty := (.object "java/lang/Object")) (by decide) rfl rfl (g := (mkF m 6 #[.val (.ref c0_a), .val (.ref a_WRONG_DOMAIN)] [(.ref a_WRONG_DOMAIN), (.ref c0_a)])) rfl rfl (hb hby d6_6)
  have Fw2 : F_0 Z h2 c0_a (.ref a_WRONG_DOMAIN) := Fld.same W2 f1
  have KK2 : Keep h0 h2 [c0_a] := (Keep.refl h0 [c0_a]).wr W2 (Or.inl (List.mem_of_getElem? (i := 0) rfl))
  have N2 := Fr.snoc X2 N0 f3
  obtain ⟨fs, hr, hrun, hended, hW, hsame⟩ := X2.leave (v := none) (fun _ => rfl)
  refine ⟨_, _, castTop (ef6_RR m c0_a a_WRONG_DOMAIN) ?_, hrun, hended, _, _, rfl, ?_, ⟨_, rfl⟩, hW, hsame.mono (by decide) (by decide)⟩
  · show Steps p.tables e below (s₁.setTop (mkF m 0 #[.val (.ref c0_a), .val (.ref a_WRONG_DOMAIN)] [])) _
    refine XS.aloadN X0.here hx rfl (hb hby d6_0) rfl rfl ?_
    show Steps p.tables e below (s₁.setTop (mkF m 1 #[.val (.ref c0_a), .val (.ref a_WRONG_DOMAIN)] [(.ref c0_a)])) _
    refine st1 _ ?_
    refine XS.aloadN X1.here hx rfl (hb hby d6_4) rfl rfl ?_
    refine XS.aloadN X1.here hx rfl (hb hby d6_5) rfl rfl ?_
    show Steps p.tables e below (T1.setTop (mkF m 6 #[.val (.ref c0_a), .val (.ref a_WRONG_DOMAIN)] [(.ref a_WRONG_DOMAIN), (.ref c0_a)])) _
    refine st2 _ ?_
    show Steps p.tables e below (T2.setTop (mkF m 9 #[.val (.ref c0_a), .val (.ref a_WRONG_DOMAIN)] [])) _
    exact X2.returnOut hx Bd.returns (hb hby d6_9) hr
  · show Q6_108 Z c0_a a_WRONG_DOMAIN h0 n0 _ T2.heap _
    rw [e2]
    exact ⟨rfl, N2, KK2, Fw2⟩
def Q4_110 (Z : State) (a_WRONG_DOMAIN : Addr) (h0 : Heap) (n0 : Nat) (v : Option Value) (h : Heap) (L : List Loc) : Prop := ∃ (b105 : Addr), v = (some (.ref b105)) ∧ Fr n0 L ∧ Keep h0 h [] ∧ h0.size ≤ b105 ∧ E_1 Z h b105 ∧ F_0 Z h b105 (.ref a_WRONG_DOMAIN)
set_option maxRecDepth 65536 in
set_option maxHeartbeats 40000000 in
theorem rm4_109 (l : Launch) (Z : State) (a0 : Array Value) (hw : ∀ d ∈ tables_1, d.before a0 Z = true) (ws : List Jvm.Cond) (a_WRONG_DOMAIN : Addr) (h0 : Heap) (n0 : Nat) (Z0 : n0 ≤ h0.size) :
    MetFree l M_4 (head1 (Jvm.Cond.code M_4 jdk_32_method_3_code 1 (some (.object "java/util/Optional")) :: ws) R_2_1_1_26) (fun a U => a = #[(.ref a_WRONG_DOMAIN)] ∧ Z.Warmed39 U.vm ∧ U.heap = h0) (fun _ _ _ _ _ => True) (fun _ U o U' => ∃ v L, o = .returned v ∧ Q4_110 Z a_WRONG_DOMAIN h0 n0 v U'.heap L ∧ FrameEnd U o U' L R_2_1_1_26.cells R_2_1_1_26.slots) := by
  refine MetFree.of_bodySF (plainFor_of_name pn_java_util_Optional) hisR ?_
  intro p e s m args below meth c s₁ Bd hml0 hP hK
  obtain ⟨rfl, hZ, hh⟩ := hP
  have hx := Bd.exec
  have hby := Bd.bytes
  have hml : c.maxLocals = 1 := hml0
  have hown : s.vm.findClass "java/util/Optional" = some m.cls := findClass_of_methodNamed Bd.named
  have hnm := (name_of_methodNamed Bd.named Bd.method).1
  have X0 : Stand p l e R_2_1_1_26 s m #[(.ref a_WRONG_DOMAIN)] below meth c s₁ [] 0 0 := Stand.of_body Bd
  have e0 : s₁.heap = h0 := by rw [← hh, Bd.state]; rfl
  have N0 := Fr.nil n0
  obtain ⟨T1, h1, X1, e1, E1, A1, D1, -, st1⟩ := newO X0 hx hZ hown (tw_21 hw) (tw_22 hw) (tw_15 hw) e0 (g := (mkF m 0 #[.val (.ref a_WRONG_DOMAIN)] [])) rfl (hb hby d4_0) (by decide) (by decide)
  obtain ⟨b105, g1⟩ : ∃ z, z = h0.size := ⟨_, rfl⟩
  rw [← g1] at A1 D1 st1
  have sz_b105 : h0.size ≤ b105 := Nat.le_trans (Nat.le_refl _) (Nat.le_of_eq g1.symm)
  have g_b105 : n0 ≤ b105 := Nat.le_trans Z0 sz_b105
  have KK1 : Keep h0 h1 [] := (Keep.refl h0 []).ext E1
  have F1_35 : F_0 Z h1 b105 .null := D1 (Or.inr (tw_35 hw)) (ty := (.object "java/lang/Object")) (by decide)
  -- pc 5: java/util/Objects.requireNonNull
  obtain ⟨_, _, ⟨T2, L2, k2, n2⟩, -, X2, ⟨Lc2, hQ2, l2, y2, z2⟩, st2⟩ := Jvm.LawKit.callS X1 hx (y := M_2) hown (mvT hZ (tw_23 hw)) (mvT hZ (tw_24 hw)) (mvT hZ (tw_25 hw)) (mvT hZ (tw_26 hw)) (by decide) (backOf (W := 2) (rm5_106 l Z a0 hw [] a_WRONG_DOMAIN h1 n0 (Nat.le_trans Z0 KK1.1) ) hZ (tw_26 hw) (tw_25 hw) (by decide) (by decide)) (g := (mkF m 5 #[.val (.ref a_WRONG_DOMAIN)] [(.ref a_WRONG_DOMAIN), (.ref b105), (.ref b105)])) rfl (by rw [hml]; rfl) (argsL := [(.ref a_WRONG_DOMAIN)]) (rest := [(.ref b105), (.ref b105)]) (lenOf pd_2 rfl) rfl (by show 2 * 0 + _ ≤ _; exact Nat.le_of_eq rfl) (hb hby d4_5) (fun _ _ => ⟨rfl, e1, (by decide : 1 + 0 ≤ _), (by decide : 1 + 0 ≤ _)⟩)
  dsimp only [Pt.U, Pt.locs, Pt.cells, Pt.slots] at X2 l2 y2 z2 st2 hQ2
  subst l2 y2 z2
  obtain ⟨rfl, Nq2, e2⟩ := hQ2
  have N2 := Fr.app N0 Nq2
  -- pc 8: java/util/Optional.<init>
  obtain ⟨_, _, ⟨T3, L3, k3, n3⟩, -, X3, ⟨Lc3, hQ3, l3, y3, z3⟩, st3⟩ := X2.specialBack hx (y := M_3) rfl hown (mvT hZ (tw_27 hw)) (mvT hZ (tw_28 hw)) (mvT hZ (tw_30 hw)) (by decide) (backOf (W := 1) (rm6_107 l Z a0 hw [] b105 a_WRONG_DOMAIN h1 n0 (Nat.le_trans Z0 KK1.1) F1_35 A1 g_b105) hZ (tw_30 hw) (tw_15 hw) (by decide) (by decide)) (g := (mkF m 8 #[.val (.ref a_WRONG_DOMAIN)] [(.ref a_WRONG_DOMAIN), (.ref b105), (.ref b105)])) rfl (by rw [hml]; rfl) (Steps.refl _) (a := b105) (argsL := [(.ref a_WRONG_DOMAIN)]) (rest := [(.ref b105)]) (lenOf pd_3 rfl) rfl (by show 2 * 0 + _ ≤ _; exact Nat.le_of_eq rfl) (hb hby d4_8) (fun _ _ => ⟨rfl, e2, (by decide : 1 + 0 ≤ _), (by decide : 1 + 0 ≤ _)⟩)
  dsimp only [Pt.U, Pt.locs, Pt.cells, Pt.slots] at X3 l3 y3 z3 st3 hQ3
  subst l3 y3 z3
  obtain ⟨rfl, Nq3, K3, o3_0⟩ := hQ3
  have N3 := Fr.app N2 Nq3
  have KK3 : Keep h0 T3.heap [] := KK1.trans K3 (fun x hx => (List.mem_cons.mp hx).elim (fun q => q ▸ (Or.inr sz_b105)) (fun hx => nomatch hx))
  have u4 : E_1 Z T3.heap b105 := Exa.keep A1 K3
  obtain ⟨fs, hr, hrun, hended, hW, hsame⟩ := X3.leave (v := (some (.ref b105))) (fun h => by rw [Bd.returns] at h; cases h)
  refine ⟨_, _, castTop (ef4_R m a_WRONG_DOMAIN) ?_, hrun, hended, _, _, rfl, ?_, ⟨_, rfl⟩, hW, hsame.mono (by decide) (by decide)⟩
  · show Steps p.tables e below (s₁.setTop (mkF m 0 #[.val (.ref a_WRONG_DOMAIN)] [])) _
    refine st1 _ ?_
    refine XS.dup X1.here hx rfl (hb hby d4_3) rfl rfl ?_
    refine XS.aloadN X1.here hx rfl (hb hby d4_4) rfl rfl ?_
    show Steps p.tables e below (T1.setTop (mkF m 5 #[.val (.ref a_WRONG_DOMAIN)] [(.ref a_WRONG_DOMAIN), (.ref b105), (.ref b105)])) _
    refine st2 _ ?_
    show Steps p.tables e below (T2.setTop (mkF m 8 #[.val (.ref a_WRONG_DOMAIN)] [(.ref a_WRONG_DOMAIN), (.ref b105), (.ref b105)])) _
    refine st3.trans ?_
    show Steps p.tables e below (T3.setTop (mkF m 11 #[.val (.ref a_WRONG_DOMAIN)] [(.ref b105)])) _
    jvm_step X3.here [X3.here.top, hx, (hb hby d4_11), X3.method', Bd.returns, Value.isRef, FieldType.isReference]
    first | (intro acts; rw [hr _ acts rfl rfl rfl]) | rw [hr _ _ rfl rfl rfl]
    exact Steps.refl _
  · show Q4_110 Z a_WRONG_DOMAIN h0 n0 _ T3.heap _
    exact ⟨b105, rfl, N3, KK3, sz_b105, u4, o3_0⟩
def Q2_113 (Z : State) (p0 : Int32) (a_EMPTY : Addr) (a_WRONG_DOMAIN : Addr) (h0 : Heap) (n0 : Nat) (v : Option Value) (h : Heap) (L : List Loc) : Prop := ∃ (b104 : Addr) (b111 : Addr), v = (some (.ref b104)) ∧ Fr n0 L ∧ Keep h0 h [] ∧ h0.size ≤ b104 ∧ h0.size ≤ b111 ∧ E_2 Z h b104 ∧ F_1 Z h b104 (.int p0) ∧ F_2 Z h b104 (.ref a_EMPTY) ∧ F_3 Z h b104 (.ref b111) ∧ E_1 Z h b111 ∧ F_0 Z h b111 (.ref a_WRONG_DOMAIN) ∧ b104 ≠ b111
set_option maxRecDepth 65536 in
set_option maxHeartbeats 40000000 in
theorem rm2_112 (l : Launch) (Z : State) (a0 : Array Value) (hw : ∀ d ∈ tables_1, d.before a0 Z = true) (ws : List Jvm.Cond) (p0 : Int32) (a_WRONG_DOMAIN : Addr) (a_EMPTY : Addr) (h0 : Heap) (n0 : Nat) (Z0 : n0 ≤ h0.size) (f1 : S_8 Z h0 (.ref a_EMPTY)) :
    MetFree l M_7 (head1 (Jvm.Cond.code M_7 prog_3_method_3_code 2 (some (.object "com/example/corestone/corestone/BulkRequest$Line")) :: ws) R_3_2_4_42) (fun a U => a = #[(.int p0), (.ref a_WRONG_DOMAIN)] ∧ Z.Warmed39 U.vm ∧ U.heap = h0) (fun _ _ _ _ _ => True) (fun _ U o U' => ∃ v L, o = .returned v ∧ Q2_113 Z p0 a_EMPTY a_WRONG_DOMAIN h0 n0 v U'.heap L ∧ FrameEnd U o U' L R_3_2_4_42.cells R_3_2_4_42.slots) := by
  refine MetFree.of_bodySF (plainFor_of_name pn_com_example_corestone_corestone_BulkRequest_Line) hisR ?_
  intro p e s m args below meth c s₁ Bd hml0 hP hK
  obtain ⟨rfl, hZ, hh⟩ := hP
  have hx := Bd.exec
  have hby := Bd.bytes
  have hml : c.maxLocals = 2 := hml0
  have hown : s.vm.findClass "com/example/corestone/corestone/BulkRequest$Line" = some m.cls := findClass_of_methodNamed Bd.named
  have hnm := (name_of_methodNamed Bd.named Bd.method).1
  have X0 : Stand p l e R_3_2_4_42 s m #[(.int p0), (.ref a_WRONG_DOMAIN)] below meth c s₁ [] 0 0 := Stand.of_body Bd
  have e0 : s₁.heap = h0 := by rw [← hh, Bd.state]; rfl
  have N0 := Fr.nil n0
  obtain ⟨T1, h1, X1, e1, E1, A1, D1, -, st1⟩ := newO X0 hx hZ hown (tw_11 hw) (tw_12 hw) (tw_9 hw) e0 (g := (mkF m 0 #[.val (.int p0), .val (.ref a_WRONG_DOMAIN)] [])) rfl (hb hby d2_0) (by decide) (by decide)
  obtain ⟨b104, g1⟩ : ∃ z, z = h0.size := ⟨_, rfl⟩
  rw [← g1] at A1 D1 st1
  have sz_b104 : h0.size ≤ b104 := Nat.le_trans (Nat.le_refl _) (Nat.le_of_eq g1.symm)
  have g_b104 : n0 ≤ b104 := Nat.le_trans Z0 sz_b104
  have KK1 : Keep h0 h1 [] := (Keep.refl h0 []).ext E1
  have F1_46 : F_1 Z h1 b104 (.int 0) := D1 (Or.inr (tw_46 hw)) (ty := .int) (by decide)
  have F1_48 : F_2 Z h1 b104 .null := D1 (Or.inr (tw_48 hw)) (ty := (.object "java/util/Optional")) (by decide)
  have F1_50 : F_3 Z h1 b104 .null := D1 (Or.inr (tw_50 hw)) (ty := (.object "java/util/Optional")) (by decide)
  -- pc 5: java/util/Optional.empty
  have u2 : S_8 Z h1 (.ref a_EMPTY) := Sta.ext E1 f1
  obtain ⟨_, _, ⟨T3, L3, k3, n3⟩, -, X3, ⟨Lc3, hQ3, l3, y3, z3⟩, st3⟩ := Jvm.LawKit.callS X1 hx (y := M_1) hown (mvT hZ (tw_13 hw)) (mvT hZ (tw_14 hw)) (mvT hZ (tw_15 hw)) (mvT hZ (tw_16 hw)) (by decide) (backOf (W := 3) (rm3_17 l Z a0 hw [] a_EMPTY h1 n0 (Nat.le_trans Z0 KK1.1) u2) hZ (tw_16 hw) (tw_15 hw) (by decide) (by decide)) (g := (mkF m 5 #[.val (.int p0), .val (.ref a_WRONG_DOMAIN)] [(.int p0), (.ref b104), (.ref b104)])) rfl (by rw [hml]; rfl) (argsL := []) (rest := [(.int p0), (.ref b104), (.ref b104)]) (lenOf pd_1 rfl) rfl (by show 2 * 0 + _ ≤ _; exact Nat.le_of_eq rfl) (hb hby d2_5) (fun _ _ => ⟨rfl, e1, (by decide : 1 + 0 ≤ _), (by decide : 3 + 0 ≤ _)⟩)
  dsimp only [Pt.U, Pt.locs, Pt.cells, Pt.slots] at X3 l3 y3 z3 st3 hQ3
  subst l3 y3 z3
  obtain ⟨rfl, Nq3, e3⟩ := hQ3
  have N3 := Fr.app N0 Nq3
  -- pc 9: java/util/Optional.of
  obtain ⟨_, _, ⟨T4, L4, k4, n4⟩, -, X4, ⟨Lc4, hQ4, l4, y4, z4⟩, st4⟩ := Jvm.LawKit.callS X3 hx (y := M_4) hown (mvT hZ (tw_18 hw)) (mvT hZ (tw_19 hw)) (mvT hZ (tw_15 hw)) (mvT hZ (tw_20 hw)) (by decide) (backOf (W := 4) (rm4_109 l Z a0 hw [] a_WRONG_DOMAIN h1 n0 (Nat.le_trans Z0 KK1.1) ) hZ (tw_20 hw) (tw_15 hw) (by decide) (by decide)) (g := (mkF m 9 #[.val (.int p0), .val (.ref a_WRONG_DOMAIN)] [(.ref a_WRONG_DOMAIN), (.ref a_EMPTY), (.int p0), (.ref b104), (.ref b104)])) rfl (by rw [hml]; rfl) (argsL := [(.ref a_WRONG_DOMAIN)]) (rest := [(.ref a_EMPTY), (.int p0), (.ref b104), (.ref b104)]) (lenOf pd_4 rfl) rfl (by show 2 * 0 + _ ≤ _; exact Nat.le_of_eq rfl) (hb hby d2_9) (fun _ _ => ⟨rfl, e3, (by decide : 1 + 1 ≤ _), (by decide : 3 + 1 ≤ _)⟩)
  dsimp only [Pt.U, Pt.locs, Pt.cells, Pt.slots] at X4 l4 y4 z4 st4 hQ4
  subst l4 y4 z4
  obtain ⟨b111, rfl, Nq4, K4, le_b111, o4_0, o4_1⟩ := hQ4
  have N4 := Fr.app N3 Nq4
  have sz_b111 : h0.size ≤ b111 := Nat.le_trans KK1.1 le_b111
  have g_b111 : n0 ≤ b111 := Nat.le_trans Z0 sz_b111
  have KK4 : Keep h0 T4.heap [] := KK1.trans K4 (fun x hx => nomatch hx)
  -- pc 12: com/example/corestone/corestone/BulkRequest$Line.<init>
  have u5 : F_1 Z T4.heap b104 (.int 0) := Fld.keep F1_46 K4 List.not_mem_nil
  have u6 : E_2 Z T4.heap b104 := Exa.keep A1 K4
  have u7 : F_2 Z T4.heap b104 .null := Fld.keep F1_48 K4 List.not_mem_nil
  have u8 : F_3 Z T4.heap b104 .null := Fld.keep F1_50 K4 List.not_mem_nil
  obtain ⟨_, _, ⟨T9, L9, k9, n9⟩, -, X9, ⟨Lc9, hQ9, l9, y9, z9⟩, st9⟩ := X4.specialBack hx (y := M_6) rfl hown (mvT hZ (tw_36 hw)) (mvT hZ (tw_37 hw)) (mvT hZ (tw_38 hw)) (by decide) (backOf (W := 1) (rm8_26 l Z a0 hw [] b104 p0 a_EMPTY b111 T4.heap n0 (Nat.le_trans Z0 KK4.1) u5 u6 g_b104 u7 u8) hZ (tw_38 hw) (tw_9 hw) (by decide) (by decide)) (g := (mkF m 12 #[.val (.int p0), .val (.ref a_WRONG_DOMAIN)] [(.ref b111), (.ref a_EMPTY), (.int p0), (.ref b104), (.ref b104)])) rfl (by rw [hml]; rfl) (Steps.refl _) (a := b104) (argsL := [(.int p0), (.ref a_EMPTY), (.ref b111)]) (rest := [(.ref b104)]) (lenOf pd_6 rfl) rfl (by show 2 * 0 + _ ≤ _; exact Nat.le_of_eq rfl) (hb hby d2_12) (fun _ _ => ⟨rfl, rfl, (by decide : 2 + 0 ≤ _), (by decide : 4 + 0 ≤ _)⟩)
  dsimp only [Pt.U, Pt.locs, Pt.cells, Pt.slots] at X9 l9 y9 z9 st9 hQ9
  subst l9 y9 z9
  obtain ⟨rfl, Nq9, K9, o9_0, o9_1, o9_2⟩ := hQ9
  have N9 := Fr.app N4 Nq9
  have KK9 : Keep h0 T9.heap [] := KK4.trans K9 (fun x hx => (List.mem_cons.mp hx).elim (fun q => q ▸ (Or.inr sz_b104)) (fun hx => nomatch hx))
  have u10 : E_2 Z T9.heap b104 := Exa.keep u6 K9
  have u11 : E_1 Z T9.heap b111 := Exa.keep o4_0 K9
  have ne12 : b104 ≠ b111 := Nat.ne_of_lt (Nat.lt_of_lt_of_le (Exa.lt A1) le_b111)
  have u13 : F_0 Z T9.heap b111 (.ref a_WRONG_DOMAIN) := Fld.keep o4_1 K9 (own_notin (Ne.symm ne12) List.not_mem_nil)
  obtain ⟨fs, hr, hrun, hended, hW, hsame⟩ := X9.leave (v := (some (.ref b104))) (fun h => by rw [Bd.returns] at h; cases h)
  refine ⟨_, _, castTop (ef2_IR m p0 a_WRONG_DOMAIN) ?_, hrun, hended, _, _, rfl, ?_, ⟨_, rfl⟩, hW, hsame.mono (by decide) (by decide)⟩
  · show Steps p.tables e below (s₁.setTop (mkF m 0 #[.val (.int p0), .val (.ref a_WRONG_DOMAIN)] [])) _
    refine st1 _ ?_
    refine XS.dup X1.here hx rfl (hb hby d2_3) rfl rfl ?_
    refine XS.iloadN X1.here hx rfl (hb hby d2_4) rfl ?_
    show Steps p.tables e below (T1.setTop (mkF m 5 #[.val (.int p0), .val (.ref a_WRONG_DOMAIN)] [(.int p0), (.ref b104), (.ref b104)])) _
    refine st3 _ ?_
    refine XS.aloadN X3.here hx rfl (hb hby d2_8) rfl rfl ?_
    show Steps p.tables e below (T3.setTop (mkF m 9 #[.val (.int p0), .val (.ref a_WRONG_DOMAIN)] [(.ref a_WRONG_DOMAIN), (.ref a_EMPTY), (.int p0), (.ref b104), (.ref b104)])) _
    refine st4 _ ?_
    show Steps p.tables e below (T4.setTop (mkF m 12 #[.val (.int p0), .val (.ref a_WRONG_DOMAIN)] [(.ref b111), (.ref a_EMPTY), (.int p0), (.ref b104), (.ref b104)])) _
    refine st9.trans ?_
    show Steps p.tables e below (T9.setTop (mkF m 15 #[.val (.int p0), .val (.ref a_WRONG_DOMAIN)] [(.ref b104)])) _
    jvm_step X9.here [X9.here.top, hx, (hb hby d2_15), X9.method', Bd.returns, Value.isRef, FieldType.isReference]
    first | (intro acts; rw [hr _ acts rfl rfl rfl]) | rw [hr _ _ rfl rfl rfl]
    exact Steps.refl _
  · show Q2_113 Z p0 a_EMPTY a_WRONG_DOMAIN h0 n0 _ T9.heap _
    exact ⟨b104, b111, rfl, N9, KK9, sz_b104, sz_b111, u10, o9_0, o9_1, o9_2, u11, u13, ne12⟩
set_option maxRecDepth 65536 in
set_option maxHeartbeats 40000000 in
theorem rm12_116 (l : Launch) (Z : State) (a0 : Array Value) (hw : ∀ d ∈ tables_1, d.before a0 Z = true) (ws : List Jvm.Cond) (c0_a : Addr) (a_WRONG_DOMAIN : Addr) (h0 : Heap) (n0 : Nat) (Z0 : n0 ≤ h0.size) (f1 : F_0 Z h0 c0_a (.ref a_WRONG_DOMAIN)) :
    MetFree l M_10 (head1 (Jvm.Cond.code M_10 jdk_32_method_6_code 1 (some .boolean) :: ws) R_0_0_0_0) (fun a U => a = #[(.ref c0_a)] ∧ Z.Warmed39 U.vm ∧ U.heap = h0) (fun _ _ _ _ _ => True) (fun _ U o U' => ∃ v L, o = .returned v ∧ QP (some (.int 1)) h0 n0 v U'.heap L ∧ FrameEnd U o U' L R_0_0_0_0.cells R_0_0_0_0.slots) := by
  refine MetFree.of_bodySF (plainFor_of_name pn_java_util_Optional) hisR ?_
  intro p e s m args below meth c s₁ Bd hml0 hP hK
  obtain ⟨rfl, hZ, hh⟩ := hP
  have hx := Bd.exec
  have hby := Bd.bytes
  have hml : c.maxLocals = 1 := hml0
  have hown : s.vm.findClass "java/util/Optional" = some m.cls := findClass_of_methodNamed Bd.named
  have hnm := (name_of_methodNamed Bd.named Bd.method).1
  have X0 : Stand p l e R_0_0_0_0 s m #[(.ref c0_a)] below meth c s₁ [] 0 0 := Stand.of_body Bd
  have e0 : s₁.heap = h0 := by rw [← hh, Bd.state]; rfl
  have N0 := Fr.nil n0
  obtain ⟨T1, X1, e1, st1⟩ := getF X0 hx hZ hown (host := "") (Or.inl (tw_34 hw)) Via.refl e0 f1 (g := (mkF m 1 #[.val (.ref c0_a)] [(.ref c0_a)])) rfl rfl (hb hby d12_1)
  obtain ⟨fs, hr, hrun, hended, hW, hsame⟩ := X1.leave (v := (some (.int 1))) (fun h => by rw [Bd.returns] at h; cases h)
  refine ⟨_, _, castTop (ef12_R m c0_a) ?_, hrun, hended, _, _, rfl, ?_, ⟨_, rfl⟩, hW, hsame.mono (by decide) (by decide)⟩
  · show Steps p.tables e below (s₁.setTop (mkF m 0 #[.val (.ref c0_a)] [])) _
    refine XS.aloadN X0.here hx rfl (hb hby d12_0) rfl rfl ?_
    show Steps p.tables e below (s₁.setTop (mkF m 1 #[.val (.ref c0_a)] [(.ref c0_a)])) _
    refine st1 _ ?_
    refine XS.ifnullNo X1.here hx rfl (hb hby d12_4) rfl ?_
    refine XS.iconst X1.here hx rfl (hb hby d12_7) ?_
    refine XS.goto X1.here hx rfl (pc0 := 8) (pc' := 12) rfl (hb hby d12_8) (by decide) (by decide) ?_
    show Steps p.tables e below (T1.setTop (mkF m 12 #[.val (.ref c0_a)] [(.int 1)])) _
    exact retN X1 hx (t := .boolean) Bd.returns (by simp) (hb hby d12_12) hr
  · show QP (some (.int 1)) h0 n0 _ T1.heap _
    rw [e1]
    exact ⟨rfl, N0, rfl⟩
set_option maxRecDepth 65536 in
set_option maxHeartbeats 40000000 in
theorem rm14_117 (l : Launch) (Z : State) (a0 : Array Value) (hw : ∀ d ∈ tables_1, d.before a0 Z = true) (ws : List Jvm.Cond) (c0_a : Addr) (a_WRONG_DOMAIN : Addr) (h0 : Heap) (n0 : Nat) (Z0 : n0 ≤ h0.size) (f1 : F_0 Z h0 c0_a (.ref a_WRONG_DOMAIN)) :
    MetFree l M_12 (head1 (Jvm.Cond.code M_12 jdk_32_method_5_code 1 (some (.object "java/lang/Object")) :: ws) R_0_0_0_0) (fun a U => a = #[(.ref c0_a)] ∧ Z.Warmed39 U.vm ∧ U.heap = h0) (fun _ _ _ _ _ => True) (fun _ U o U' => ∃ v L, o = .returned v ∧ QP (some (.ref a_WRONG_DOMAIN)) h0 n0 v U'.heap L ∧ FrameEnd U o U' L R_0_0_0_0.cells R_0_0_0_0.slots) := by
  refine MetFree.of_bodySF (plainFor_of_name pn_java_util_Optional) hisR ?_
  intro p e s m args below meth c s₁ Bd hml0 hP hK
  obtain ⟨rfl, hZ, hh⟩ := hP
  have hx := Bd.exec
  have hby := Bd.bytes
  have hml : c.maxLocals = 1 := hml0
  have hown : s.vm.findClass "java/util/Optional" = some m.cls := findClass_of_methodNamed Bd.named
  have hnm := (name_of_methodNamed Bd.named Bd.method).1
  have X0 : Stand p l e R_0_0_0_0 s m #[(.ref c0_a)] below meth c s₁ [] 0 0 := Stand.of_body Bd
  have e0 : s₁.heap = h0 := by rw [← hh, Bd.state]; rfl
  have N0 := Fr.nil n0
  obtain ⟨T1, X1, e1, st1⟩ := getF X0 hx hZ hown (host := "") (Or.inl (tw_34 hw)) Via.refl e0 f1 (g := (mkF m 1 #[.val (.ref c0_a)] [(.ref c0_a)])) rfl rfl (hb hby d14_1)
  obtain ⟨T2, X2, e2, st2⟩ := getF X1 hx hZ hown (host := "") (Or.inl (tw_34 hw)) Via.refl e1 f1 (g := (mkF m 18 #[.val (.ref c0_a)] [(.ref c0_a)])) rfl rfl (hb hby d14_18)
  obtain ⟨fs, hr, hrun, hended, hW, hsame⟩ := X2.leave (v := (some (.ref a_WRONG_DOMAIN))) (fun h => by rw [Bd.returns] at h; cases h)
  refine ⟨_, _, castTop (ef14_R m c0_a) ?_, hrun, hended, _, _, rfl, ?_, ⟨_, rfl⟩, hW, hsame.mono (by decide) (by decide)⟩
  · show Steps p.tables e below (s₁.setTop (mkF m 0 #[.val (.ref c0_a)] [])) _
    refine XS.aloadN X0.here hx rfl (hb hby d14_0) rfl rfl ?_
    show Steps p.tables e below (s₁.setTop (mkF m 1 #[.val (.ref c0_a)] [(.ref c0_a)])) _
    refine st1 _ ?_
    refine XS.ifnonnullYes X1.here hx rfl (pc0 := 4) (pc' := 17) rfl (hb hby d14_4) rfl (by decide) (by decide) ?_
    refine XS.aloadN X1.here hx rfl (hb hby d14_17) rfl rfl ?_
    show Steps p.tables e below (T1.setTop (mkF m 18 #[.val (.ref c0_a)] [(.ref c0_a)])) _
    refine st2 _ ?_
    show Steps p.tables e below (T2.setTop (mkF m 21 #[.val (.ref c0_a)] [(.ref a_WRONG_DOMAIN)])) _
    jvm_step X2.here [X2.here.top, hx, (hb hby d14_21), X2.method', Bd.returns, Value.isRef, FieldType.isReference]
    first | (intro acts; rw [hr _ acts rfl rfl rfl]) | rw [hr _ _ rfl rfl rfl]
    exact Steps.refl _
  · show QP (some (.ref a_WRONG_DOMAIN)) h0 n0 _ T2.heap _
    rw [e2]
    exact ⟨rfl, N0, rfl⟩
set_option maxRecDepth 65536 in
set_option maxHeartbeats 40000000 in
theorem rm0_118 (l : Launch) (Z : State) (a0 : Array Value) (hw : ∀ d ∈ tables_1, d.before a0 Z = true) (ws : List Jvm.Cond) (p0 : Int32) (p1 : Int32) (a_WRONG_DOMAIN : Addr) (a_EMPTY : Addr) (h0 : Heap) (n0 : Nat) (Z0 : n0 ≤ h0.size) (f1 : (p1 &&& (7 : Int32)) = (5 : Int32)) (f2 : S_4 Z h0 (.ref a_WRONG_DOMAIN)) (f3 : S_8 Z h0 (.ref a_EMPTY)) (f4 : F_0 Z h0 a_EMPTY .null) (f5 : E_1 Z h0 a_EMPTY) :
    MetFree l x (head1 (Jvm.Cond.code x code maxLocals ret :: ws) room_1) (fun a U => a = #[(.int p0), (.int p1)] ∧ Z.Warmed39 U.vm ∧ U.heap = h0) (fun _ _ _ _ _ => True) (fun _ U o U' => ∃ v L, o = .returned v ∧ QT n0 v U'.heap L ∧ FrameEnd U o U' L room_1.cells room_1.slots) := by
  refine MetFree.of_bodySF (plainFor_of_name pn_com_example_corestone_corestone_LineRefusedPinLaw) hisR ?_
  intro p e s m args below meth c s₁ Bd hml0 hP hK
  obtain ⟨rfl, hZ, hh⟩ := hP
  have hx := Bd.exec
  have hby := Bd.bytes
  have hml : c.maxLocals = 4 := hml0
  have hown : s.vm.findClass "com/example/corestone/corestone/LineRefusedPinLaw" = some m.cls := findClass_of_methodNamed Bd.named
  have hnm := (name_of_methodNamed Bd.named Bd.method).1
  have X0 : Stand p l e room_1 s m #[(.int p0), (.int p1)] below meth c s₁ [] 0 0 := Stand.of_body Bd
  have e0 : s₁.heap = h0 := by rw [← hh, Bd.state]; rfl
  have N0 := Fr.nil n0
  -- pc 1: com/example/corestone/corestone/LineRefusedPinLaw.pick
  obtain ⟨_, _, ⟨T1, L1, k1, n1⟩, -, X1, ⟨Lc1, hQ1, l1, y1, z1⟩, st1⟩ := Jvm.LawKit.callS X0 hx (y := M_0) hown (mvT hZ (tw_0 hw)) (mvT hZ (tw_1 hw)) (mvT hZ (tw_2 hw)) (mvT hZ (tw_3 hw)) (by decide) (backOf (W := 0) (rm1_103 l Z a0 hw [] p1 a_WRONG_DOMAIN h0 n0 Z0 f1 f2) hZ (tw_3 hw) (tw_2 hw) (by decide) (by decide)) (g := (mkF m 1 #[.val (.int p0), .val (.int p1), .unset, .unset] [(.int p1)])) rfl (by rw [hml]; rfl) (argsL := [(.int p1)]) (rest := []) (lenOf pd_0 rfl) rfl (by show 2 * 0 + _ ≤ _; exact Nat.le_of_eq rfl) (hb hby at_1) (fun _ _ => ⟨rfl, e0, (by decide : 0 + 0 ≤ _), (by decide : 0 + 0 ≤ _)⟩)
  dsimp only [Pt.U, Pt.locs, Pt.cells, Pt.slots] at X1 l1 y1 z1 st1 hQ1
  subst l1 y1 z1
  obtain ⟨rfl, Nq1, e1⟩ := hQ1
  have N1 := Fr.app N0 Nq1
  -- pc 7: com/example/corestone/corestone/BulkRequest$Line.refused
  obtain ⟨_, _, ⟨T2, L2, k2, n2⟩, -, X2, ⟨Lc2, hQ2, l2, y2, z2⟩, st2⟩ := Jvm.LawKit.callS X1 hx (y := M_7) hown (mvT hZ (tw_7 hw)) (mvT hZ (tw_8 hw)) (mvT hZ (tw_9 hw)) (mvT hZ (tw_10 hw)) (by decide) (backOf (W := 0) (rm2_112 l Z a0 hw [] p0 a_WRONG_DOMAIN a_EMPTY h0 n0 Z0 f3) hZ (tw_10 hw) (tw_9 hw) (by decide) (by decide)) (g := (mkF m 7 #[.val (.int p0), .val (.int p1), .val (.ref a_WRONG_DOMAIN), .unset] [(.ref a_WRONG_DOMAIN), (.int p0)])) rfl (by rw [hml]; rfl) (argsL := [(.int p0), (.ref a_WRONG_DOMAIN)]) (rest := []) (lenOf pd_7 rfl) rfl (by show 2 * 0 + _ ≤ _; exact Nat.le_of_eq rfl) (hb hby at_7) (fun _ _ => ⟨rfl, e1, (by decide : 0 + 2 ≤ _), (by decide : 0 + 4 ≤ _)⟩)
  dsimp only [Pt.U, Pt.locs, Pt.cells, Pt.slots] at X2 l2 y2 z2 st2 hQ2
  subst l2 y2 z2
  obtain ⟨b114, b115, rfl, Nq2, K2, le_b114, le_b115, o2_0, o2_1, o2_2, o2_3, o2_4, o2_5, o2_6⟩ := hQ2
  have N2 := Fr.app N1 Nq2
  have sz_b114 : h0.size ≤ b114 := Nat.le_trans (Nat.le_refl _) le_b114
  have g_b114 : n0 ≤ b114 := Nat.le_trans Z0 sz_b114
  have sz_b115 : h0.size ≤ b115 := Nat.le_trans (Nat.le_refl _) le_b115
  have g_b115 : n0 ≤ b115 := Nat.le_trans Z0 sz_b115
  have KK2 : Keep h0 T2.heap [] := (Keep.refl h0 []).trans K2 (fun x hx => nomatch hx)
  -- pc 18: com/example/corestone/corestone/BulkRequest$Line.number
  obtain ⟨cq3, kq3, q3a, q3b, q3c⟩ := isOf hZ rfl o2_0
  obtain ⟨_, _, ⟨T3, L3, k3, n3⟩, -, X3, ⟨Lc3, hQ3, l3, y3, z3⟩, st3⟩ := X2.virtualBack hx (y := M_8) (z := M_8) hown (mvT hZ (tw_51 hw)) (mvT hZ (tw_52 hw)) (notFace_of_selects (args := #[]) (mvT hZ (tw_54 hw))) (mvT hZ (tw_54 hw)) (mvT hZ (tw_53 hw)) (by decide) (backOf (W := 0) (rm10_32 l Z a0 hw [] b114 p0 T2.heap n0 (Nat.le_trans Z0 KK2.1) o2_1) hZ (tw_55 hw) (tw_9 hw) (by decide) (by decide)) q3a q3c (g := (mkF m 18 #[.val (.int p0), .val (.int p1), .val (.ref a_WRONG_DOMAIN), .val (.ref b114)] [(.ref b114)])) rfl (by rw [hml]; rfl) (Steps.refl _) (argsL := []) (rest := []) (lenOf pd_8 rfl) rfl (by show 2 * 0 + _ ≤ _; exact Nat.le_of_eq rfl) (hb hby at_18) (fun _ _ => ⟨rfl, rfl, (by decide : 2 + 0 ≤ _), (by decide : 4 + 0 ≤ _)⟩)
  dsimp only [Pt.U, Pt.locs, Pt.cells, Pt.slots] at X3 l3 y3 z3 st3 hQ3
  subst l3 y3 z3
  obtain ⟨rfl, Nq3, e3⟩ := hQ3
  have N3 := Fr.app N2 Nq3
  -- pc 28: com/example/corestone/corestone/BulkRequest$Line.handle
  obtain ⟨cq4, kq4, q4a, q4b, q4c⟩ := isOf hZ e3 o2_0
  obtain ⟨_, _, ⟨T4, L4, k4, n4⟩, -, X4, ⟨Lc4, hQ4, l4, y4, z4⟩, st4⟩ := X3.virtualBack hx (y := M_9) (z := M_9) hown (mvT hZ (tw_56 hw)) (mvT hZ (tw_57 hw)) (notFace_of_selects (args := #[]) (mvT hZ (tw_59 hw))) (mvT hZ (tw_59 hw)) (mvT hZ (tw_58 hw)) (by decide) (backOf (W := 0) (rm11_33 l Z a0 hw [] b114 a_EMPTY T2.heap n0 (Nat.le_trans Z0 KK2.1) o2_2) hZ (tw_60 hw) (tw_9 hw) (by decide) (by decide)) q4a q4c (g := (mkF m 28 #[.val (.int p0), .val (.int p1), .val (.ref a_WRONG_DOMAIN), .val (.ref b114)] [(.ref b114)])) rfl (by rw [hml]; rfl) (Steps.refl _) (argsL := []) (rest := []) (lenOf pd_1 rfl) rfl (by show 2 * 0 + _ ≤ _; exact Nat.le_of_eq rfl) (hb hby at_28) (fun _ _ => ⟨rfl, e3, (by decide : 2 + 0 ≤ _), (by decide : 4 + 0 ≤ _)⟩)
  dsimp only [Pt.U, Pt.locs, Pt.cells, Pt.slots] at X4 l4 y4 z4 st4 hQ4
  subst l4 y4 z4
  obtain ⟨rfl, Nq4, e4⟩ := hQ4
  have N4 := Fr.app N3 Nq4
  -- pc 35: com/example/corestone/corestone/BulkRequest$Line.handle
  obtain ⟨cq5, kq5, q5a, q5b, q5c⟩ := isOf hZ e4 o2_0
  obtain ⟨_, _, ⟨T5, L5, k5, n5⟩, -, X5, ⟨Lc5, hQ5, l5, y5, z5⟩, st5⟩ := X4.virtualBack hx (y := M_9) (z := M_9) hown (mvT hZ (tw_56 hw)) (mvT hZ (tw_57 hw)) (notFace_of_selects (args := #[]) (mvT hZ (tw_59 hw))) (mvT hZ (tw_59 hw)) (mvT hZ (tw_58 hw)) (by decide) (backOf (W := 0) (rm11_33 l Z a0 hw [] b114 a_EMPTY T2.heap n0 (Nat.le_trans Z0 KK2.1) o2_2) hZ (tw_60 hw) (tw_9 hw) (by decide) (by decide)) q5a q5c (g := (mkF m 35 #[.val (.int p0), .val (.int p1), .val (.ref a_WRONG_DOMAIN), .val (.ref b114)] [(.ref b114)])) rfl (by rw [hml]; rfl) (Steps.refl _) (argsL := []) (rest := []) (lenOf pd_1 rfl) rfl (by show 2 * 0 + _ ≤ _; exact Nat.le_of_eq rfl) (hb hby at_35) (fun _ _ => ⟨rfl, e4, (by decide : 2 + 0 ≤ _), (by decide : 4 + 0 ≤ _)⟩)
  dsimp only [Pt.U, Pt.locs, Pt.cells, Pt.slots] at X5 l5 y5 z5 st5 hQ5
  subst l5 y5 z5
  obtain ⟨rfl, Nq5, e5⟩ := hQ5
  have N5 := Fr.app N4 Nq5
  -- pc 38: java/util/Optional.isPresent
  have u6 : F_0 Z T2.heap a_EMPTY .null := Fld.keep f4 K2 List.not_mem_nil
  have u8 : E_1 Z T2.heap a_EMPTY := Exa.keep f5 K2
  obtain ⟨cq7, kq7, q7a, q7b, q7c⟩ := isOf hZ e5 u8
  obtain ⟨_, _, ⟨T7, L7, k7, n7⟩, -, X7, ⟨Lc7, hQ7, l7, y7, z7⟩, st7⟩ := X5.virtualBack hx (y := M_10) (z := M_10) hown (mvT hZ (tw_61 hw)) (mvT hZ (tw_62 hw)) (notFace_of_selects (args := #[]) (mvT hZ (tw_64 hw))) (mvT hZ (tw_64 hw)) (mvT hZ (tw_63 hw)) (by decide) (backOf (W := 0) (rm12_34 l Z a0 hw [] a_EMPTY T2.heap n0 (Nat.le_trans Z0 KK2.1) u6) hZ (tw_65 hw) (tw_15 hw) (by decide) (by decide)) q7a q7c (g := (mkF m 38 #[.val (.int p0), .val (.int p1), .val (.ref a_WRONG_DOMAIN), .val (.ref b114)] [(.ref a_EMPTY)])) rfl (by rw [hml]; rfl) (Steps.refl _) (argsL := []) (rest := []) (lenOf pd_9 rfl) rfl (by show 2 * 0 + _ ≤ _; exact Nat.le_of_eq rfl) (hb hby at_38) (fun _ _ => ⟨rfl, e5, (by decide : 2 + 0 ≤ _), (by decide : 4 + 0 ≤ _)⟩)
  dsimp only [Pt.U, Pt.locs, Pt.cells, Pt.slots] at X7 l7 y7 z7 st7 hQ7
  subst l7 y7 z7
  obtain ⟨rfl, Nq7, e7⟩ := hQ7
  have N7 := Fr.app N5 Nq7
  -- pc 47: com/example/corestone/corestone/BulkRequest$Line.refusal
  obtain ⟨cq9, kq9, q9a, q9b, q9c⟩ := isOf hZ e7 o2_0
  obtain ⟨_, _, ⟨T9, L9, k9, n9⟩, -, X9, ⟨Lc9, hQ9, l9, y9, z9⟩, st9⟩ := X7.virtualBack hx (y := M_11) (z := M_11) hown (mvT hZ (tw_66 hw)) (mvT hZ (tw_67 hw)) (notFace_of_selects (args := #[]) (mvT hZ (tw_69 hw))) (mvT hZ (tw_69 hw)) (mvT hZ (tw_68 hw)) (by decide) (backOf (W := 0) (rm13_35 l Z a0 hw [] b114 b115 T2.heap n0 (Nat.le_trans Z0 KK2.1) o2_3) hZ (tw_70 hw) (tw_9 hw) (by decide) (by decide)) q9a q9c (g := (mkF m 47 #[.val (.int p0), .val (.int p1), .val (.ref a_WRONG_DOMAIN), .val (.ref b114)] [(.ref b114)])) rfl (by rw [hml]; rfl) (Steps.refl _) (argsL := []) (rest := []) (lenOf pd_1 rfl) rfl (by show 2 * 0 + _ ≤ _; exact Nat.le_of_eq rfl) (hb hby at_47) (fun _ _ => ⟨rfl, e7, (by decide : 2 + 0 ≤ _), (by decide : 4 + 0 ≤ _)⟩)
  dsimp only [Pt.U, Pt.locs, Pt.cells, Pt.slots] at X9 l9 y9 z9 st9 hQ9
  subst l9 y9 z9
  obtain ⟨rfl, Nq9, e9⟩ := hQ9
  have N9 := Fr.app N7 Nq9
  -- pc 54: com/example/corestone/corestone/BulkRequest$Line.refusal
  obtain ⟨cq10, kq10, q10a, q10b, q10c⟩ := isOf hZ e9 o2_0
  obtain ⟨_, _, ⟨T10, L10, k10, n10⟩, -, X10, ⟨Lc10, hQ10, l10, y10, z10⟩, st10⟩ := X9.virtualBack hx (y := M_11) (z := M_11) hown (mvT hZ (tw_66 hw)) (mvT hZ (tw_67 hw)) (notFace_of_selects (args := #[]) (mvT hZ (tw_69 hw))) (mvT hZ (tw_69 hw)) (mvT hZ (tw_68 hw)) (by decide) (backOf (W := 0) (rm13_35 l Z a0 hw [] b114 b115 T2.heap n0 (Nat.le_trans Z0 KK2.1) o2_3) hZ (tw_70 hw) (tw_9 hw) (by decide) (by decide)) q10a q10c (g := (mkF m 54 #[.val (.int p0), .val (.int p1), .val (.ref a_WRONG_DOMAIN), .val (.ref b114)] [(.ref b114)])) rfl (by rw [hml]; rfl) (Steps.refl _) (argsL := []) (rest := []) (lenOf pd_1 rfl) rfl (by show 2 * 0 + _ ≤ _; exact Nat.le_of_eq rfl) (hb hby at_54) (fun _ _ => ⟨rfl, e9, (by decide : 2 + 0 ≤ _), (by decide : 4 + 0 ≤ _)⟩)
  dsimp only [Pt.U, Pt.locs, Pt.cells, Pt.slots] at X10 l10 y10 z10 st10 hQ10
  subst l10 y10 z10
  obtain ⟨rfl, Nq10, e10⟩ := hQ10
  have N10 := Fr.app N9 Nq10
  -- pc 57: java/util/Optional.isPresent
  obtain ⟨cq11, kq11, q11a, q11b, q11c⟩ := isOf hZ e10 o2_4
  obtain ⟨_, _, ⟨T11, L11, k11, n11⟩, -, X11, ⟨Lc11, hQ11, l11, y11, z11⟩, st11⟩ := X10.virtualBack hx (y := M_10) (z := M_10) hown (mvT hZ (tw_61 hw)) (mvT hZ (tw_62 hw)) (notFace_of_selects (args := #[]) (mvT hZ (tw_64 hw))) (mvT hZ (tw_64 hw)) (mvT hZ (tw_63 hw)) (by decide) (backOf (W := 0) (rm12_116 l Z a0 hw [] b115 a_WRONG_DOMAIN T2.heap n0 (Nat.le_trans Z0 KK2.1) o2_5) hZ (tw_65 hw) (tw_15 hw) (by decide) (by decide)) q11a q11c (g := (mkF m 57 #[.val (.int p0), .val (.int p1), .val (.ref a_WRONG_DOMAIN), .val (.ref b114)] [(.ref b115)])) rfl (by rw [hml]; rfl) (Steps.refl _) (argsL := []) (rest := []) (lenOf pd_9 rfl) rfl (by show 2 * 0 + _ ≤ _; exact Nat.le_of_eq rfl) (hb hby at_57) (fun _ _ => ⟨rfl, e10, (by decide : 2 + 0 ≤ _), (by decide : 4 + 0 ≤ _)⟩)
  dsimp only [Pt.U, Pt.locs, Pt.cells, Pt.slots] at X11 l11 y11 z11 st11 hQ11
  subst l11 y11 z11
  obtain ⟨rfl, Nq11, e11⟩ := hQ11
  have N11 := Fr.app N10 Nq11
  -- pc 66: com/example/corestone/corestone/BulkRequest$Line.refusal
  obtain ⟨cq12, kq12, q12a, q12b, q12c⟩ := isOf hZ e11 o2_0
  obtain ⟨_, _, ⟨T12, L12, k12, n12⟩, -, X12, ⟨Lc12, hQ12, l12, y12, z12⟩, st12⟩ := X11.virtualBack hx (y := M_11) (z := M_11) hown (mvT hZ (tw_66 hw)) (mvT hZ (tw_67 hw)) (notFace_of_selects (args := #[]) (mvT hZ (tw_69 hw))) (mvT hZ (tw_69 hw)) (mvT hZ (tw_68 hw)) (by decide) (backOf (W := 0) (rm13_35 l Z a0 hw [] b114 b115 T2.heap n0 (Nat.le_trans Z0 KK2.1) o2_3) hZ (tw_70 hw) (tw_9 hw) (by decide) (by decide)) q12a q12c (g := (mkF m 66 #[.val (.int p0), .val (.int p1), .val (.ref a_WRONG_DOMAIN), .val (.ref b114)] [(.ref b114)])) rfl (by rw [hml]; rfl) (Steps.refl _) (argsL := []) (rest := []) (lenOf pd_1 rfl) rfl (by show 2 * 0 + _ ≤ _; exact Nat.le_of_eq rfl) (hb hby at_66) (fun _ _ => ⟨rfl, e11, (by decide : 2 + 0 ≤ _), (by decide : 4 + 0 ≤ _)⟩)
  dsimp only [Pt.U, Pt.locs, Pt.cells, Pt.slots] at X12 l12 y12 z12 st12 hQ12
  subst l12 y12 z12
  obtain ⟨rfl, Nq12, e12⟩ := hQ12
  have N12 := Fr.app N11 Nq12
  -- pc 69: java/util/Optional.get
  obtain ⟨cq13, kq13, q13a, q13b, q13c⟩ := isOf hZ e12 o2_4
  obtain ⟨_, _, ⟨T13, L13, k13, n13⟩, -, X13, ⟨Lc13, hQ13, l13, y13, z13⟩, st13⟩ := X12.virtualBack hx (y := M_12) (z := M_12) hown (mvT hZ (tw_71 hw)) (mvT hZ (tw_72 hw)) (notFace_of_selects (args := #[]) (mvT hZ (tw_74 hw))) (mvT hZ (tw_74 hw)) (mvT hZ (tw_73 hw)) (by decide) (backOf (W := 0) (rm14_117 l Z a0 hw [] b115 a_WRONG_DOMAIN T2.heap n0 (Nat.le_trans Z0 KK2.1) o2_5) hZ (tw_75 hw) (tw_15 hw) (by decide) (by decide)) q13a q13c (g := (mkF m 69 #[.val (.int p0), .val (.int p1), .val (.ref a_WRONG_DOMAIN), .val (.ref b114)] [(.ref b115)])) rfl (by rw [hml]; rfl) (Steps.refl _) (argsL := []) (rest := []) (lenOf pd_10 rfl) rfl (by show 2 * 0 + _ ≤ _; exact Nat.le_of_eq rfl) (hb hby at_69) (fun _ _ => ⟨rfl, e12, (by decide : 2 + 0 ≤ _), (by decide : 4 + 0 ≤ _)⟩)
  dsimp only [Pt.U, Pt.locs, Pt.cells, Pt.slots] at X13 l13 y13 z13 st13 hQ13
  subst l13 y13 z13
  obtain ⟨rfl, Nq13, e13⟩ := hQ13
  have N13 := Fr.app N12 Nq13
  obtain ⟨fs, hr, hrun, hended, hW, hsame⟩ := X13.leave (v := (some (.int 1))) (fun h => by rw [Bd.returns] at h; cases h)
  refine ⟨_, _, castTop (ef0_II m p0 p1) ?_, hrun, hended, _, _, rfl, ?_, ⟨_, rfl⟩, hW, hsame.mono (by decide) (by decide)⟩
  · show Steps p.tables e below (s₁.setTop (mkF m 0 #[.val (.int p0), .val (.int p1), .unset, .unset] [])) _
    refine XS.iloadN X0.here hx rfl (hb hby at_0) rfl ?_
    show Steps p.tables e below (s₁.setTop (mkF m 1 #[.val (.int p0), .val (.int p1), .unset, .unset] [(.int p1)])) _
    refine st1 _ ?_
    refine XS.astoreN X1.here hx rfl (hb hby at_4) rfl rfl (l' := #[.val (.int p0), .val (.int p1), .val (.ref a_WRONG_DOMAIN), .unset]) rfl ?_
    refine XS.iloadN X1.here hx rfl (hb hby at_5) rfl ?_
    refine XS.aloadN X1.here hx rfl (hb hby at_6) rfl rfl ?_
    show Steps p.tables e below (T1.setTop (mkF m 7 #[.val (.int p0), .val (.int p1), .val (.ref a_WRONG_DOMAIN), .unset] [(.ref a_WRONG_DOMAIN), (.int p0)])) _
    refine st2 _ ?_
    refine XS.astoreN X2.here hx rfl (hb hby at_10) rfl rfl (l' := #[.val (.int p0), .val (.int p1), .val (.ref a_WRONG_DOMAIN), .val (.ref b114)]) rfl ?_
    refine XS.aloadN X2.here hx rfl (hb hby at_11) rfl rfl ?_
    refine XS.ifnonnullYes X2.here hx rfl (pc0 := 12) (pc' := 17) rfl (hb hby at_12) rfl (by decide) (by decide) ?_
    refine XS.aloadN X2.here hx rfl (hb hby at_17) rfl rfl ?_
    show Steps p.tables e below (T2.setTop (mkF m 18 #[.val (.int p0), .val (.int p1), .val (.ref a_WRONG_DOMAIN), .val (.ref b114)] [(.ref b114)])) _
    refine st3.trans ?_
    refine XS.iloadN X3.here hx rfl (hb hby at_21) rfl ?_
    refine XS.icmpYes X3.here hx rfl (pc0 := 22) (pc' := 27) rfl (hb hby at_22) rfl (teq (rfl : p0 = p0)).1 (by decide) (by decide) ?_
    refine XS.aloadN X3.here hx rfl (hb hby at_27) rfl rfl ?_
    show Steps p.tables e below (T3.setTop (mkF m 28 #[.val (.int p0), .val (.int p1), .val (.ref a_WRONG_DOMAIN), .val (.ref b114)] [(.ref b114)])) _
    refine st4.trans ?_
    refine XS.ifnullNo X4.here hx rfl (hb hby at_31) rfl ?_
    refine XS.aloadN X4.here hx rfl (hb hby at_34) rfl rfl ?_
    show Steps p.tables e below (T4.setTop (mkF m 35 #[.val (.int p0), .val (.int p1), .val (.ref a_WRONG_DOMAIN), .val (.ref b114)] [(.ref b114)])) _
    refine st5.trans ?_
    show Steps p.tables e below (T5.setTop (mkF m 38 #[.val (.int p0), .val (.int p1), .val (.ref a_WRONG_DOMAIN), .val (.ref b114)] [(.ref a_EMPTY)])) _
    refine st7.trans ?_
    refine XS.ifYes X7.here hx rfl (pc0 := 41) (pc' := 46) rfl (hb hby at_41) rfl (by decide) (by decide) (by decide) ?_
    refine XS.aloadN X7.here hx rfl (hb hby at_46) rfl rfl ?_
    show Steps p.tables e below (T7.setTop (mkF m 47 #[.val (.int p0), .val (.int p1), .val (.ref a_WRONG_DOMAIN), .val (.ref b114)] [(.ref b114)])) _
    refine st9.trans ?_
    refine XS.ifnullNo X9.here hx rfl (hb hby at_50) rfl ?_
    refine XS.aloadN X9.here hx rfl (hb hby at_53) rfl rfl ?_
    show Steps p.tables e below (T9.setTop (mkF m 54 #[.val (.int p0), .val (.int p1), .val (.ref a_WRONG_DOMAIN), .val (.ref b114)] [(.ref b114)])) _
    refine st10.trans ?_
    show Steps p.tables e below (T10.setTop (mkF m 57 #[.val (.int p0), .val (.int p1), .val (.ref a_WRONG_DOMAIN), .val (.ref b114)] [(.ref b115)])) _
    refine st11.trans ?_
    refine XS.ifYes X11.here hx rfl (pc0 := 60) (pc' := 65) rfl (hb hby at_60) rfl (by decide) (by decide) (by decide) ?_
    refine XS.aloadN X11.here hx rfl (hb hby at_65) rfl rfl ?_
    show Steps p.tables e below (T11.setTop (mkF m 66 #[.val (.int p0), .val (.int p1), .val (.ref a_WRONG_DOMAIN), .val (.ref b114)] [(.ref b114)])) _
    refine st12.trans ?_
    show Steps p.tables e below (T12.setTop (mkF m 69 #[.val (.int p0), .val (.int p1), .val (.ref a_WRONG_DOMAIN), .val (.ref b114)] [(.ref b115)])) _
    refine st13.trans ?_
    refine XS.aloadN X13.here hx rfl (hb hby at_72) rfl rfl ?_
    show Steps p.tables e below (T13.setTop (mkF m 73 #[.val (.int p0), .val (.int p1), .val (.ref a_WRONG_DOMAIN), .val (.ref b114)] [(.ref a_WRONG_DOMAIN), (.ref a_WRONG_DOMAIN)])) _
    refine Jvm.RoadKit.acmp (g := (mkF m 73 #[.val (.int p0), .val (.int p1), .val (.ref a_WRONG_DOMAIN), .val (.ref b114)] [(.ref a_WRONG_DOMAIN), (.ref a_WRONG_DOMAIN)])) X13 hx rfl rfl rfl (pc0 := 73) (pc' := 76) (same := true) rfl (hb hby at_73) rfl (decide_eq_true rfl) (by decide) (by decide) ?_
    refine XS.iconst X13.here hx rfl (hb hby at_76) ?_
    refine XS.goto X13.here hx rfl (pc0 := 77) (pc' := 81) rfl (hb hby at_77) (by decide) (by decide) ?_
    show Steps p.tables e below (T13.setTop (mkF m 81 #[.val (.int p0), .val (.int p1), .val (.ref a_WRONG_DOMAIN), .val (.ref b114)] [(.int 1)])) _
    exact retN X13 hx (t := .boolean) Bd.returns (by simp) (hb hby at_81) hr
  · show QT n0 _ T13.heap _
    rw [e13]
    exact ⟨rfl, N13⟩
theorem d1_58 : decode method_2_code 58 = .ok (.iload_n 1, 1) := by decide +kernel
theorem d1_59 : decode method_2_code 59 = .ok (.bipush 6, 2) := by decide +kernel
theorem d1_61 : decode method_2_code 61 = .ok (.if_icmp .ne 7, 3) := by decide +kernel
theorem d1_64 : decode method_2_code 64 = .ok (.getstatic 28, 3) := by decide +kernel
theorem tw_86 {a0 : Array Value} {Z : State} (hw : ∀ d ∈ tables_1, d.before a0 Z = true) : (Jvm.Cond.fieldLink "com/example/corestone/corestone/LineRefusedPinLaw" (28 : Nat) "com/example/corestone/corestone/RefusedException$Refusal" "FORBIDDEN" "Lcom/example/corestone/corestone/RefusedException$Refusal;").before a0 Z = true := hw _ (List.mem_of_getElem? (i := 86) rfl)
theorem d1_67 : decode method_2_code 67 = .ok (.areturn, 1) := by decide +kernel
set_option maxRecDepth 65536 in
set_option maxHeartbeats 40000000 in
theorem rm1_119 (l : Launch) (Z : State) (a0 : Array Value) (hw : ∀ d ∈ tables_1, d.before a0 Z = true) (ws : List Jvm.Cond) (p1 : Int32) (a_FORBIDDEN : Addr) (h0 : Heap) (n0 : Nat) (Z0 : n0 ≤ h0.size) (f1 : (p1 &&& (7 : Int32)) = (6 : Int32)) (f2 : S_6 Z h0 (.ref a_FORBIDDEN)) :
    MetFree l M_0 (head1 (Jvm.Cond.code M_0 method_2_code 2 (some (.object "com/example/corestone/corestone/RefusedException$Refusal")) :: ws) R_0_0_0_0) (fun a U => a = #[(.int p1)] ∧ Z.Warmed39 U.vm ∧ U.heap = h0) (fun _ _ _ _ _ => True) (fun _ U o U' => ∃ v L, o = .returned v ∧ QP (some (.ref a_FORBIDDEN)) h0 n0 v U'.heap L ∧ FrameEnd U o U' L R_0_0_0_0.cells R_0_0_0_0.slots) := by
  refine MetFree.of_bodySF (plainFor_of_name pn_com_example_corestone_corestone_LineRefusedPinLaw) hisR ?_
  intro p e s m args below meth c s₁ Bd hml0 hP hK
  obtain ⟨rfl, hZ, hh⟩ := hP
  have hx := Bd.exec
  have hby := Bd.bytes
  have hml : c.maxLocals = 2 := hml0
  have hown : s.vm.findClass "com/example/corestone/corestone/LineRefusedPinLaw" = some m.cls := findClass_of_methodNamed Bd.named
  have hnm := (name_of_methodNamed Bd.named Bd.method).1
  have X0 : Stand p l e R_0_0_0_0 s m #[(.int p1)] below meth c s₁ [] 0 0 := Stand.of_body Bd
  have e0 : s₁.heap = h0 := by rw [← hh, Bd.state]; rfl
  have N0 := Fr.nil n0
  obtain ⟨T1, X1, e1, st1⟩ := getS2 X0 hx hZ hown (host := "") (Or.inl (tw_86 hw)) Via.refl e0 f2 (g := (mkF m 64 #[.val (.int p1), .val (.int 6)] [])) rfl (hb hby d1_64)
  obtain ⟨fs, hr, hrun, hended, hW, hsame⟩ := X1.leave (v := (some (.ref a_FORBIDDEN))) (fun h => by rw [Bd.returns] at h; cases h)
  refine ⟨_, _, castTop (ef1_I m p1) ?_, hrun, hended, _, _, rfl, ?_, ⟨_, rfl⟩, hW, hsame.mono (by decide) (by decide)⟩
  · show Steps p.tables e below (s₁.setTop (mkF m 0 #[.val (.int p1), .unset] [])) _
    refine XS.iloadN X0.here hx rfl (hb hby d1_0) rfl ?_
    refine XS.bipush X0.here hx rfl (hb hby d1_1) ?_
    show Steps p.tables e below (s₁.setTop (mkF m 3 #[.val (.int p1), .unset] [(.int 7), (.int p1)])) _
    refine XS.iand X0.here hx rfl (hb hby d1_3) rfl ?_
    show Steps p.tables e below (s₁.setTop (mkF m 4 #[.val (.int p1), .unset] [(.int (p1 &&& (7 : Int32)))])) _
    rw [f1]
    refine XS.istoreN X0.here hx rfl (hb hby d1_4) rfl (l' := #[.val (.int p1), .val (.int 6)]) rfl ?_
    refine XS.iloadN X0.here hx rfl (hb hby d1_5) rfl ?_
    refine XS.ifYes X0.here hx rfl (pc0 := 6) (pc' := 13) rfl (hb hby d1_6) rfl (by decide) (by decide) (by decide) ?_
    refine XS.iloadN X0.here hx rfl (hb hby d1_13) rfl ?_
    show Steps p.tables e below (s₁.setTop (mkF m 14 #[.val (.int p1), .val (.int 6)] [(.int 6)])) _
    refine XS.iconst X0.here hx rfl (hb hby d1_14) ?_
    refine XS.icmpYes X0.here hx rfl (pc0 := 15) (pc' := 22) rfl (hb hby d1_15) rfl (by decide) (by decide) (by decide) ?_
    refine XS.iloadN X0.here hx rfl (hb hby d1_22) rfl ?_
    refine XS.iconst X0.here hx rfl (hb hby d1_23) ?_
    refine XS.icmpYes X0.here hx rfl (pc0 := 24) (pc' := 31) rfl (hb hby d1_24) rfl (by decide) (by decide) (by decide) ?_
    show Steps p.tables e below (s₁.setTop (mkF m 31 #[.val (.int p1), .val (.int 6)] [])) _
    refine XS.iloadN X0.here hx rfl (hb hby d1_31) rfl ?_
    refine XS.iconst X0.here hx rfl (hb hby d1_32) ?_
    refine XS.icmpYes X0.here hx rfl (pc0 := 33) (pc' := 40) rfl (hb hby d1_33) rfl (by decide) (by decide) (by decide) ?_
    refine XS.iloadN X0.here hx rfl (hb hby d1_40) rfl ?_
    refine XS.iconst X0.here hx rfl (hb hby d1_41) ?_
    show Steps p.tables e below (s₁.setTop (mkF m 42 #[.val (.int p1), .val (.int 6)] [(.int 4), (.int 6)])) _
    refine XS.icmpYes X0.here hx rfl (pc0 := 42) (pc' := 49) rfl (hb hby d1_42) rfl (by decide) (by decide) (by decide) ?_
    refine XS.iloadN X0.here hx rfl (hb hby d1_49) rfl ?_
    refine XS.iconst X0.here hx rfl (hb hby d1_50) ?_
    refine XS.icmpYes X0.here hx rfl (pc0 := 51) (pc' := 58) rfl (hb hby d1_51) rfl (by decide) (by decide) (by decide) ?_
    refine XS.iloadN X0.here hx rfl (hb hby d1_58) rfl ?_
    show Steps p.tables e below (s₁.setTop (mkF m 59 #[.val (.int p1), .val (.int 6)] [(.int 6)])) _
    refine XS.bipush X0.here hx rfl (hb hby d1_59) ?_
    refine XS.icmpNo X0.here hx rfl (hb hby d1_61) rfl (by decide) ?_
    show Steps p.tables e below (s₁.setTop (mkF m 64 #[.val (.int p1), .val (.int 6)] [])) _
    refine st1 _ ?_
    show Steps p.tables e below (T1.setTop (mkF m 67 #[.val (.int p1), .val (.int 6)] [(.ref a_FORBIDDEN)])) _
    jvm_step X1.here [X1.here.top, hx, (hb hby d1_67), X1.method', Bd.returns, Value.isRef, FieldType.isReference]
    first | (intro acts; rw [hr _ acts rfl rfl rfl]) | rw [hr _ _ rfl rfl rfl]
    exact Steps.refl _
  · show QP (some (.ref a_FORBIDDEN)) h0 n0 _ T1.heap _
    rw [e1]
    exact ⟨rfl, N0, rfl⟩
set_option maxRecDepth 65536 in
set_option maxHeartbeats 40000000 in
theorem rm5_122 (l : Launch) (Z : State) (a0 : Array Value) (hw : ∀ d ∈ tables_1, d.before a0 Z = true) (ws : List Jvm.Cond) (a_FORBIDDEN : Addr) (h0 : Heap) (n0 : Nat) (Z0 : n0 ≤ h0.size) :
    MetFree l M_2 (head1 (Jvm.Cond.code M_2 jdk_31_method_10_code 1 (some (.object "java/lang/Object")) :: ws) R_0_0_0_0) (fun a U => a = #[(.ref a_FORBIDDEN)] ∧ Z.Warmed39 U.vm ∧ U.heap = h0) (fun _ _ _ _ _ => True) (fun _ U o U' => ∃ v L, o = .returned v ∧ QP (some (.ref a_FORBIDDEN)) h0 n0 v U'.heap L ∧ FrameEnd U o U' L R_0_0_0_0.cells R_0_0_0_0.slots) := by
  refine MetFree.of_bodySF (plainFor_of_name pn_java_util_Objects) hisR ?_
  intro p e s m args below meth c s₁ Bd hml0 hP hK
  obtain ⟨rfl, hZ, hh⟩ := hP
  have hx := Bd.exec
  have hby := Bd.bytes
  have hml : c.maxLocals = 1 := hml0
  have hown : s.vm.findClass "java/util/Objects" = some m.cls := findClass_of_methodNamed Bd.named
  have hnm := (name_of_methodNamed Bd.named Bd.method).1
  have X0 : Stand p l e R_0_0_0_0 s m #[(.ref a_FORBIDDEN)] below meth c s₁ [] 0 0 := Stand.of_body Bd
  have e0 : s₁.heap = h0 := by rw [← hh, Bd.state]; rfl
  have N0 := Fr.nil n0
  obtain ⟨fs, hr, hrun, hended, hW, hsame⟩ := X0.leave (v := (some (.ref a_FORBIDDEN))) (fun h => by rw [Bd.returns] at h; cases h)
  refine ⟨_, _, castTop (ef5_R m a_FORBIDDEN) ?_, hrun, hended, _, _, rfl, ?_, ⟨_, rfl⟩, hW, hsame.mono (by decide) (by decide)⟩
  · show Steps p.tables e below (s₁.setTop (mkF m 0 #[.val (.ref a_FORBIDDEN)] [])) _
    refine XS.aloadN X0.here hx rfl (hb hby d5_0) rfl rfl ?_
    refine XS.ifnonnullYes X0.here hx rfl (pc0 := 1) (pc' := 12) rfl (hb hby d5_1) rfl (by decide) (by decide) ?_
    refine XS.aloadN X0.here hx rfl (hb hby d5_12) rfl rfl ?_
    show Steps p.tables e below (s₁.setTop (mkF m 13 #[.val (.ref a_FORBIDDEN)] [(.ref a_FORBIDDEN)])) _
    jvm_step X0.here [X0.here.top, hx, (hb hby d5_13), X0.method', Bd.returns, Value.isRef, FieldType.isReference]
    first | (intro acts; rw [hr _ acts rfl rfl rfl]) | rw [hr _ _ rfl rfl rfl]
    exact Steps.refl _
  · show QP (some (.ref a_FORBIDDEN)) h0 n0 _ s₁.heap _
    rw [e0]
    exact ⟨rfl, N0, rfl⟩
def Q6_124 (Z : State) (c0_a : Addr) (a_FORBIDDEN : Addr) (h0 : Heap) (n0 : Nat) (v : Option Value) (h : Heap) (L : List Loc) : Prop := v = none ∧ Fr n0 L ∧ Keep h0 h [c0_a] ∧ F_0 Z h c0_a (.ref a_FORBIDDEN)
set_option maxRecDepth 65536 in
set_option maxHeartbeats 40000000 in
theorem rm6_123 (l : Launch) (Z : State) (a0 : Array Value) (hw : ∀ d ∈ tables_1, d.before a0 Z = true) (ws : List Jvm.Cond) (c0_a : Addr) (a_FORBIDDEN : Addr) (h0 : Heap) (n0 : Nat) (Z0 : n0 ≤ h0.size) (f1 : F_0 Z h0 c0_a .null) (f2 : E_1 Z h0 c0_a) (f3 : n0 ≤ c0_a) :
    MetFree l M_3 (head1 (Jvm.Cond.code M_3 jdk_32_method_2_code 2 none :: ws) R_1_0_0_12) (fun a U => a = #[(.ref c0_a), (.ref a_FORBIDDEN)] ∧ Z.Warmed39 U.vm ∧ U.heap = h0) (fun _ _ _ _ _ => True) (fun _ U o U' => ∃ v L, o = .returned v ∧ Q6_124 Z c0_a a_FORBIDDEN h0 n0 v U'.heap L ∧ FrameEnd U o U' L R_1_0_0_12.cells R_1_0_0_12.slots) := by
  refine MetFree.of_bodySF (plainFor_of_name pn_java_util_Optional) hisR ?_
  intro p e s m args below meth c s₁ Bd hml0 hP hK
  obtain ⟨rfl, hZ, hh⟩ := hP
  have hx := Bd.exec
  have hby := Bd.bytes
  have hml : c.maxLocals = 2 := hml0
  have hown : s.vm.findClass "java/util/Optional" = some m.cls := findClass_of_methodNamed Bd.named
  have hnm := (name_of_methodNamed Bd.named Bd.method).1
  have X0 : Stand p l e R_1_0_0_12 s m #[(.ref c0_a), (.ref a_FORBIDDEN)] below meth c s₁ [] 0 0 := Stand.of_body Bd
  have e0 : s₁.heap = h0 := by rw [← hh, Bd.state]; rfl
  have N0 := Fr.nil n0
  obtain ⟨T1, X1, e1, st1⟩ := initO X0 hx hZ hown (tw_31 hw) (tw_32 hw) (tw_33 hw) e0 (g := (mkF m 1 #[.val (.ref c0_a), .val (.ref a_FORBIDDEN)] [(.ref c0_a)])) rfl (by rw [hml]; rfl) rfl (hb hby d6_1) (by decide) (W := 0) (by show 2 * 0 + _ ≤ _; exact Nat.le_of_eq rfl) (by decide)
  obtain ⟨T2, h2, X2, e2, W2, st2⟩ := putF X1 hx hZ hown (host := "") (Or.inl (tw_34 hw)) Via.refl e1 f1 f2 (Or.inr ⟨(tw_35 hw), rfl, hnm⟩) (tw_22 hw) (ty := (.object "java/lang/Object")) (by decide) rfl rfl (g := (mkF m 6 #[.val (.ref c0_a), .val (.ref a_FORBIDDEN)] [(.ref a_FORBIDDEN), (.ref c0_a)])) rfl rfl (hb hby d6_6)
  have Fw2 : F_0 Z h2 c0_a (.ref a_FORBIDDEN) := Fld.same W2 f1
  have KK2 : Keep h0 h2 [c0_a] := (Keep.refl h0 [c0_a]).wr W2 (Or.inl (List.mem_of_getElem? (i := 0) rfl))
  have N2 := Fr.snoc X2 N0 f3
  obtain ⟨fs, hr, hrun, hended, hW, hsame⟩ := X2.leave (v := none) (fun _ => rfl)
  refine ⟨_, _, castTop (ef6_RR m c0_a a_FORBIDDEN) ?_, hrun, hended, _, _, rfl, ?_, ⟨_, rfl⟩, hW, hsame.mono (by decide) (by decide)⟩
  · show Steps p.tables e below (s₁.setTop (mkF m 0 #[.val (.ref c0_a), .val (.ref a_FORBIDDEN)] [])) _
    refine XS.aloadN X0.here hx rfl (hb hby d6_0) rfl rfl ?_
    show Steps p.tables e below (s₁.setTop (mkF m 1 #[.val (.ref c0_a), .val (.ref a_FORBIDDEN)] [(.ref c0_a)])) _
    refine st1 _ ?_
    refine XS.aloadN X1.here hx rfl (hb hby d6_4) rfl rfl ?_
    refine XS.aloadN X1.here hx rfl (hb hby d6_5) rfl rfl ?_
    show Steps p.tables e below (T1.setTop (mkF m 6 #[.val (.ref c0_a), .val (.ref a_FORBIDDEN)] [(.ref a_FORBIDDEN), (.ref c0_a)])) _
    refine st2 _ ?_
    show Steps p.tables e below (T2.setTop (mkF m 9 #[.val (.ref c0_a), .val (.ref a_FORBIDDEN)] [])) _
    exact X2.returnOut hx Bd.returns (hb hby d6_9) hr
  · show Q6_124 Z c0_a a_FORBIDDEN h0 n0 _ T2.heap _
    rw [e2]
    exact ⟨rfl, N2, KK2, Fw2⟩
def Q4_126 (Z : State) (a_FORBIDDEN : Addr) (h0 : Heap) (n0 : Nat) (v : Option Value) (h : Heap) (L : List Loc) : Prop := ∃ (b121 : Addr), v = (some (.ref b121)) ∧ Fr n0 L ∧ Keep h0 h [] ∧ h0.size ≤ b121 ∧ E_1 Z h b121 ∧ F_0 Z h b121 (.ref a_FORBIDDEN)
set_option maxRecDepth 65536 in
set_option maxHeartbeats 40000000 in
theorem rm4_125 (l : Launch) (Z : State) (a0 : Array Value) (hw : ∀ d ∈ tables_1, d.before a0 Z = true) (ws : List Jvm.Cond) (a_FORBIDDEN : Addr) (h0 : Heap) (n0 : Nat) (Z0 : n0 ≤ h0.size) :
    MetFree l M_4 (head1 (Jvm.Cond.code M_4 jdk_32_method_3_code 1 (some (.object "java/util/Optional")) :: ws) R_2_1_1_26) (fun a U => a = #[(.ref a_FORBIDDEN)] ∧ Z.Warmed39 U.vm ∧ U.heap = h0) (fun _ _ _ _ _ => True) (fun _ U o U' => ∃ v L, o = .returned v ∧ Q4_126 Z a_FORBIDDEN h0 n0 v U'.heap L ∧ FrameEnd U o U' L R_2_1_1_26.cells R_2_1_1_26.slots) := by
  refine MetFree.of_bodySF (plainFor_of_name pn_java_util_Optional) hisR ?_
  intro p e s m args below meth c s₁ Bd hml0 hP hK
  obtain ⟨rfl, hZ, hh⟩ := hP
  have hx := Bd.exec
  have hby := Bd.bytes
  have hml : c.maxLocals = 1 := hml0
  have hown : s.vm.findClass "java/util/Optional" = some m.cls := findClass_of_methodNamed Bd.named
  have hnm := (name_of_methodNamed Bd.named Bd.method).1
  have X0 : Stand p l e R_2_1_1_26 s m #[(.ref a_FORBIDDEN)] below meth c s₁ [] 0 0 := Stand.of_body Bd
  have e0 : s₁.heap = h0 := by rw [← hh, Bd.state]; rfl
  have N0 := Fr.nil n0
  obtain ⟨T1, h1, X1, e1, E1, A1, D1, -, st1⟩ := newO X0 hx hZ hown (tw_21 hw) (tw_22 hw) (tw_15 hw) e0 (g := (mkF m 0 #[.val (.ref a_FORBIDDEN)] [])) rfl (hb hby d4_0) (by decide) (by decide)
  obtain ⟨b121, g1⟩ : ∃ z, z = h0.size := ⟨_, rfl⟩
  rw [← g1] at A1 D1 st1
  have sz_b121 : h0.size ≤ b121 := Nat.le_trans (Nat.le_refl _) (Nat.le_of_eq g1.symm)
  have g_b121 : n0 ≤ b121 := Nat.le_trans Z0 sz_b121
  have KK1 : Keep h0 h1 [] := (Keep.refl h0 []).ext E1
  have F1_35 : F_0 Z h1 b121 .null := D1 (Or.inr (tw_35 hw)) (ty := (.object "java/lang/Object")) (by decide)
  -- pc 5: java/util/Objects.requireNonNull
  obtain ⟨_, _, ⟨T2, L2, k2, n2⟩, -, X2, ⟨Lc2, hQ2, l2, y2, z2⟩, st2⟩ := Jvm.LawKit.callS X1 hx (y := M_2) hown (mvT hZ (tw_23 hw)) (mvT hZ (tw_24 hw)) (mvT hZ (tw_25 hw)) (mvT hZ (tw_26 hw)) (by decide) (backOf (W := 2) (rm5_122 l Z a0 hw [] a_FORBIDDEN h1 n0 (Nat.le_trans Z0 KK1.1) ) hZ (tw_26 hw) (tw_25 hw) (by decide) (by decide)) (g := (mkF m 5 #[.val (.ref a_FORBIDDEN)] [(.ref a_FORBIDDEN), (.ref b121), (.ref b121)])) rfl (by rw [hml]; rfl) (argsL := [(.ref a_FORBIDDEN)]) (rest := [(.ref b121), (.ref b121)]) (lenOf pd_2 rfl) rfl (by show 2 * 0 + _ ≤ _; exact Nat.le_of_eq rfl) (hb hby d4_5) (fun _ _ => ⟨rfl, e1, (by decide : 1 + 0 ≤ _), (by decide : 1 + 0 ≤ _)⟩)
  dsimp only [Pt.U, Pt.locs, Pt.cells, Pt.slots] at X2 l2 y2 z2 st2 hQ2
  subst l2 y2 z2
  obtain ⟨rfl, Nq2, e2⟩ := hQ2
  have N2 := Fr.app N0 Nq2
  -- pc 8: java/util/Optional.<init>
  obtain ⟨_, _, ⟨T3, L3, k3, n3⟩, -, X3, ⟨Lc3, hQ3, l3, y3, z3⟩, st3⟩ := X2.specialBack hx (y := M_3) rfl hown (mvT hZ (tw_27 hw)) (mvT hZ (tw_28 hw)) (mvT hZ (tw_30 hw)) (by decide) (backOf (W := 1) (rm6_123 l Z a0 hw [] b121 a_FORBIDDEN h1 n0 (Nat.le_trans Z0 KK1.1) F1_35 A1 g_b121) hZ (tw_30 hw) (tw_15 hw) (by decide) (by decide)) (g := (mkF m 8 #[.val (.ref a_FORBIDDEN)] [(.ref a_FORBIDDEN), (.ref b121), (.ref b121)])) rfl (by rw [hml]; rfl) (Steps.refl _) (a := b121) (argsL := [(.ref a_FORBIDDEN)]) (rest := [(.ref b121)]) (lenOf pd_3 rfl) rfl (by show 2 * 0 + _ ≤ _; exact Nat.le_of_eq rfl) (hb hby d4_8) (fun _ _ => ⟨rfl, e2, (by decide : 1 + 0 ≤ _), (by decide : 1 + 0 ≤ _)⟩)
  dsimp only [Pt.U, Pt.locs, Pt.cells, Pt.slots] at X3 l3 y3 z3 st3 hQ3
  subst l3 y3 z3
  obtain ⟨rfl, Nq3, K3, o3_0⟩ := hQ3
  have N3 := Fr.app N2 Nq3
  have KK3 : Keep h0 T3.heap [] := KK1.trans K3 (fun x hx => (List.mem_cons.mp hx).elim (fun q => q ▸ (Or.inr sz_b121)) (fun hx => nomatch hx))
  have u4 : E_1 Z T3.heap b121 := Exa.keep A1 K3
  obtain ⟨fs, hr, hrun, hended, hW, hsame⟩ := X3.leave (v := (some (.ref b121))) (fun h => by rw [Bd.returns] at h; cases h)
  refine ⟨_, _, castTop (ef4_R m a_FORBIDDEN) ?_, hrun, hended, _, _, rfl, ?_, ⟨_, rfl⟩, hW, hsame.mono (by decide) (by decide)⟩
  · show Steps p.tables e below (s₁.setTop (mkF m 0 #[.val (.ref a_FORBIDDEN)] [])) _
    refine st1 _ ?_
    refine XS.dup X1.here hx rfl (hb hby d4_3) rfl rfl ?_
    refine XS.aloadN X1.here hx rfl (hb hby d4_4) rfl rfl ?_
    show Steps p.tables e below (T1.setTop (mkF m 5 #[.val (.ref a_FORBIDDEN)] [(.ref a_FORBIDDEN), (.ref b121), (.ref b121)])) _
    refine st2 _ ?_
    show Steps p.tables e below (T2.setTop (mkF m 8 #[.val (.ref a_FORBIDDEN)] [(.ref a_FORBIDDEN), (.ref b121), (.ref b121)])) _
    refine st3.trans ?_
    show Steps p.tables e below (T3.setTop (mkF m 11 #[.val (.ref a_FORBIDDEN)] [(.ref b121)])) _
    jvm_step X3.here [X3.here.top, hx, (hb hby d4_11), X3.method', Bd.returns, Value.isRef, FieldType.isReference]
    first | (intro acts; rw [hr _ acts rfl rfl rfl]) | rw [hr _ _ rfl rfl rfl]
    exact Steps.refl _
  · show Q4_126 Z a_FORBIDDEN h0 n0 _ T3.heap _
    exact ⟨b121, rfl, N3, KK3, sz_b121, u4, o3_0⟩
def Q2_129 (Z : State) (p0 : Int32) (a_EMPTY : Addr) (a_FORBIDDEN : Addr) (h0 : Heap) (n0 : Nat) (v : Option Value) (h : Heap) (L : List Loc) : Prop := ∃ (b120 : Addr) (b127 : Addr), v = (some (.ref b120)) ∧ Fr n0 L ∧ Keep h0 h [] ∧ h0.size ≤ b120 ∧ h0.size ≤ b127 ∧ E_2 Z h b120 ∧ F_1 Z h b120 (.int p0) ∧ F_2 Z h b120 (.ref a_EMPTY) ∧ F_3 Z h b120 (.ref b127) ∧ E_1 Z h b127 ∧ F_0 Z h b127 (.ref a_FORBIDDEN) ∧ b120 ≠ b127
set_option maxRecDepth 65536 in
set_option maxHeartbeats 40000000 in
theorem rm2_128 (l : Launch) (Z : State) (a0 : Array Value) (hw : ∀ d ∈ tables_1, d.before a0 Z = true) (ws : List Jvm.Cond) (p0 : Int32) (a_FORBIDDEN : Addr) (a_EMPTY : Addr) (h0 : Heap) (n0 : Nat) (Z0 : n0 ≤ h0.size) (f1 : S_8 Z h0 (.ref a_EMPTY)) :
    MetFree l M_7 (head1 (Jvm.Cond.code M_7 prog_3_method_3_code 2 (some (.object "com/example/corestone/corestone/BulkRequest$Line")) :: ws) R_3_2_4_42) (fun a U => a = #[(.int p0), (.ref a_FORBIDDEN)] ∧ Z.Warmed39 U.vm ∧ U.heap = h0) (fun _ _ _ _ _ => True) (fun _ U o U' => ∃ v L, o = .returned v ∧ Q2_129 Z p0 a_EMPTY a_FORBIDDEN h0 n0 v U'.heap L ∧ FrameEnd U o U' L R_3_2_4_42.cells R_3_2_4_42.slots) := by
  refine MetFree.of_bodySF (plainFor_of_name pn_com_example_corestone_corestone_BulkRequest_Line) hisR ?_
  intro p e s m args below meth c s₁ Bd hml0 hP hK
  obtain ⟨rfl, hZ, hh⟩ := hP
  have hx := Bd.exec
  have hby := Bd.bytes
  have hml : c.maxLocals = 2 := hml0
  have hown : s.vm.findClass "com/example/corestone/corestone/BulkRequest$Line" = some m.cls := findClass_of_methodNamed Bd.named
  have hnm := (name_of_methodNamed Bd.named Bd.method).1
  have X0 : Stand p l e R_3_2_4_42 s m #[(.int p0), (.ref a_FORBIDDEN)] below meth c s₁ [] 0 0 := Stand.of_body Bd
  have e0 : s₁.heap = h0 := by rw [← hh, Bd.state]; rfl
  have N0 := Fr.nil n0
  obtain ⟨T1, h1, X1, e1, E1, A1, D1, -, st1⟩ := newO X0 hx hZ hown (tw_11 hw) (tw_12 hw) (tw_9 hw) e0 (g := (mkF m 0 #[.val (.int p0), .val (.ref a_FORBIDDEN)] [])) rfl (hb hby d2_0) (by decide) (by decide)
  obtain ⟨b120, g1⟩ : ∃ z, z = h0.size := ⟨_, rfl⟩
  rw [← g1] at A1 D1 st1
  have sz_b120 : h0.size ≤ b120 := Nat.le_trans (Nat.le_refl _) (Nat.le_of_eq g1.symm)
  have g_b120 : n0 ≤ b120 := Nat.le_trans Z0 sz_b120
  have KK1 : Keep h0 h1 [] := (Keep.refl h0 []).ext E1
  have F1_46 : F_1 Z h1 b120 (.int 0) := D1 (Or.inr (tw_46 hw)) (ty := .int) (by decide)
  have F1_48 : F_2 Z h1 b120 .null := D1 (Or.inr (tw_48 hw)) (ty := (.object "java/util/Optional")) (by decide)
  have F1_50 : F_3 Z h1 b120 .null := D1 (Or.inr (tw_50 hw)) (ty := (.object "java/util/Optional")) (by decide)
  -- pc 5: java/util/Optional.empty
  have u2 : S_8 Z h1 (.ref a_EMPTY) := Sta.ext E1 f1
  obtain ⟨_, _, ⟨T3, L3, k3, n3⟩, -, X3, ⟨Lc3, hQ3, l3, y3, z3⟩, st3⟩ := Jvm.LawKit.callS X1 hx (y := M_1) hown (mvT hZ (tw_13 hw)) (mvT hZ (tw_14 hw)) (mvT hZ (tw_15 hw)) (mvT hZ (tw_16 hw)) (by decide) (backOf (W := 3) (rm3_17 l Z a0 hw [] a_EMPTY h1 n0 (Nat.le_trans Z0 KK1.1) u2) hZ (tw_16 hw) (tw_15 hw) (by decide) (by decide)) (g := (mkF m 5 #[.val (.int p0), .val (.ref a_FORBIDDEN)] [(.int p0), (.ref b120), (.ref b120)])) rfl (by rw [hml]; rfl) (argsL := []) (rest := [(.int p0), (.ref b120), (.ref b120)]) (lenOf pd_1 rfl) rfl (by show 2 * 0 + _ ≤ _; exact Nat.le_of_eq rfl) (hb hby d2_5) (fun _ _ => ⟨rfl, e1, (by decide : 1 + 0 ≤ _), (by decide : 3 + 0 ≤ _)⟩)
  dsimp only [Pt.U, Pt.locs, Pt.cells, Pt.slots] at X3 l3 y3 z3 st3 hQ3
  subst l3 y3 z3
  obtain ⟨rfl, Nq3, e3⟩ := hQ3
  have N3 := Fr.app N0 Nq3
  -- pc 9: java/util/Optional.of
  obtain ⟨_, _, ⟨T4, L4, k4, n4⟩, -, X4, ⟨Lc4, hQ4, l4, y4, z4⟩, st4⟩ := Jvm.LawKit.callS X3 hx (y := M_4) hown (mvT hZ (tw_18 hw)) (mvT hZ (tw_19 hw)) (mvT hZ (tw_15 hw)) (mvT hZ (tw_20 hw)) (by decide) (backOf (W := 4) (rm4_125 l Z a0 hw [] a_FORBIDDEN h1 n0 (Nat.le_trans Z0 KK1.1) ) hZ (tw_20 hw) (tw_15 hw) (by decide) (by decide)) (g := (mkF m 9 #[.val (.int p0), .val (.ref a_FORBIDDEN)] [(.ref a_FORBIDDEN), (.ref a_EMPTY), (.int p0), (.ref b120), (.ref b120)])) rfl (by rw [hml]; rfl) (argsL := [(.ref a_FORBIDDEN)]) (rest := [(.ref a_EMPTY), (.int p0), (.ref b120), (.ref b120)]) (lenOf pd_4 rfl) rfl (by show 2 * 0 + _ ≤ _; exact Nat.le_of_eq rfl) (hb hby d2_9) (fun _ _ => ⟨rfl, e3, (by decide : 1 + 1 ≤ _), (by decide : 3 + 1 ≤ _)⟩)
  dsimp only [Pt.U, Pt.locs, Pt.cells, Pt.slots] at X4 l4 y4 z4 st4 hQ4
  subst l4 y4 z4
  obtain ⟨b127, rfl, Nq4, K4, le_b127, o4_0, o4_1⟩ := hQ4
  have N4 := Fr.app N3 Nq4
  have sz_b127 : h0.size ≤ b127 := Nat.le_trans KK1.1 le_b127
  have g_b127 : n0 ≤ b127 := Nat.le_trans Z0 sz_b127
  have KK4 : Keep h0 T4.heap [] := KK1.trans K4 (fun x hx => nomatch hx)
  -- pc 12: com/example/corestone/corestone/BulkRequest$Line.<init>
  have u5 : F_1 Z T4.heap b120 (.int 0) := Fld.keep F1_46 K4 List.not_mem_nil
  have u6 : E_2 Z T4.heap b120 := Exa.keep A1 K4
  have u7 : F_2 Z T4.heap b120 .null := Fld.keep F1_48 K4 List.not_mem_nil
  have u8 : F_3 Z T4.heap b120 .null := Fld.keep F1_50 K4 List.not_mem_nil
  obtain ⟨_, _, ⟨T9, L9, k9, n9⟩, -, X9, ⟨Lc9, hQ9, l9, y9, z9⟩, st9⟩ := X4.specialBack hx (y := M_6) rfl hown (mvT hZ (tw_36 hw)) (mvT hZ (tw_37 hw)) (mvT hZ (tw_38 hw)) (by decide) (backOf (W := 1) (rm8_26 l Z a0 hw [] b120 p0 a_EMPTY b127 T4.heap n0 (Nat.le_trans Z0 KK4.1) u5 u6 g_b120 u7 u8) hZ (tw_38 hw) (tw_9 hw) (by decide) (by decide)) (g := (mkF m 12 #[.val (.int p0), .val (.ref a_FORBIDDEN)] [(.ref b127), (.ref a_EMPTY), (.int p0), (.ref b120), (.ref b120)])) rfl (by rw [hml]; rfl) (Steps.refl _) (a := b120) (argsL := [(.int p0), (.ref a_EMPTY), (.ref b127)]) (rest := [(.ref b120)]) (lenOf pd_6 rfl) rfl (by show 2 * 0 + _ ≤ _; exact Nat.le_of_eq rfl) (hb hby d2_12) (fun _ _ => ⟨rfl, rfl, (by decide : 2 + 0 ≤ _), (by decide : 4 + 0 ≤ _)⟩)
  dsimp only [Pt.U, Pt.locs, Pt.cells, Pt.slots] at X9 l9 y9 z9 st9 hQ9
  subst l9 y9 z9
  obtain ⟨rfl, Nq9, K9, o9_0, o9_1, o9_2⟩ := hQ9
  have N9 := Fr.app N4 Nq9
  have KK9 : Keep h0 T9.heap [] := KK4.trans K9 (fun x hx => (List.mem_cons.mp hx).elim (fun q => q ▸ (Or.inr sz_b120)) (fun hx => nomatch hx))
  have u10 : E_2 Z T9.heap b120 := Exa.keep u6 K9
  have u11 : E_1 Z T9.heap b127 := Exa.keep o4_0 K9
  have ne12 : b120 ≠ b127 := Nat.ne_of_lt (Nat.lt_of_lt_of_le (Exa.lt A1) le_b127)
  have u13 : F_0 Z T9.heap b127 (.ref a_FORBIDDEN) := Fld.keep o4_1 K9 (own_notin (Ne.symm ne12) List.not_mem_nil)
  obtain ⟨fs, hr, hrun, hended, hW, hsame⟩ := X9.leave (v := (some (.ref b120))) (fun h => by rw [Bd.returns] at h; cases h)
  refine ⟨_, _, castTop (ef2_IR m p0 a_FORBIDDEN) ?_, hrun, hended, _, _, rfl, ?_, ⟨_, rfl⟩, hW, hsame.mono (by decide) (by decide)⟩
  · show Steps p.tables e below (s₁.setTop (mkF m 0 #[.val (.int p0), .val (.ref a_FORBIDDEN)] [])) _
    refine st1 _ ?_
    refine XS.dup X1.here hx rfl (hb hby d2_3) rfl rfl ?_
    refine XS.iloadN X1.here hx rfl (hb hby d2_4) rfl ?_
    show Steps p.tables e below (T1.setTop (mkF m 5 #[.val (.int p0), .val (.ref a_FORBIDDEN)] [(.int p0), (.ref b120), (.ref b120)])) _
    refine st3 _ ?_
    refine XS.aloadN X3.here hx rfl (hb hby d2_8) rfl rfl ?_
    show Steps p.tables e below (T3.setTop (mkF m 9 #[.val (.int p0), .val (.ref a_FORBIDDEN)] [(.ref a_FORBIDDEN), (.ref a_EMPTY), (.int p0), (.ref b120), (.ref b120)])) _
    refine st4 _ ?_
    show Steps p.tables e below (T4.setTop (mkF m 12 #[.val (.int p0), .val (.ref a_FORBIDDEN)] [(.ref b127), (.ref a_EMPTY), (.int p0), (.ref b120), (.ref b120)])) _
    refine st9.trans ?_
    show Steps p.tables e below (T9.setTop (mkF m 15 #[.val (.int p0), .val (.ref a_FORBIDDEN)] [(.ref b120)])) _
    jvm_step X9.here [X9.here.top, hx, (hb hby d2_15), X9.method', Bd.returns, Value.isRef, FieldType.isReference]
    first | (intro acts; rw [hr _ acts rfl rfl rfl]) | rw [hr _ _ rfl rfl rfl]
    exact Steps.refl _
  · show Q2_129 Z p0 a_EMPTY a_FORBIDDEN h0 n0 _ T9.heap _
    exact ⟨b120, b127, rfl, N9, KK9, sz_b120, sz_b127, u10, o9_0, o9_1, o9_2, u11, u13, ne12⟩
set_option maxRecDepth 65536 in
set_option maxHeartbeats 40000000 in
theorem rm12_132 (l : Launch) (Z : State) (a0 : Array Value) (hw : ∀ d ∈ tables_1, d.before a0 Z = true) (ws : List Jvm.Cond) (c0_a : Addr) (a_FORBIDDEN : Addr) (h0 : Heap) (n0 : Nat) (Z0 : n0 ≤ h0.size) (f1 : F_0 Z h0 c0_a (.ref a_FORBIDDEN)) :
    MetFree l M_10 (head1 (Jvm.Cond.code M_10 jdk_32_method_6_code 1 (some .boolean) :: ws) R_0_0_0_0) (fun a U => a = #[(.ref c0_a)] ∧ Z.Warmed39 U.vm ∧ U.heap = h0) (fun _ _ _ _ _ => True) (fun _ U o U' => ∃ v L, o = .returned v ∧ QP (some (.int 1)) h0 n0 v U'.heap L ∧ FrameEnd U o U' L R_0_0_0_0.cells R_0_0_0_0.slots) := by
  refine MetFree.of_bodySF (plainFor_of_name pn_java_util_Optional) hisR ?_
  intro p e s m args below meth c s₁ Bd hml0 hP hK
  obtain ⟨rfl, hZ, hh⟩ := hP
  have hx := Bd.exec
  have hby := Bd.bytes
  have hml : c.maxLocals = 1 := hml0
  have hown : s.vm.findClass "java/util/Optional" = some m.cls := findClass_of_methodNamed Bd.named
  have hnm := (name_of_methodNamed Bd.named Bd.method).1
  have X0 : Stand p l e R_0_0_0_0 s m #[(.ref c0_a)] below meth c s₁ [] 0 0 := Stand.of_body Bd
  have e0 : s₁.heap = h0 := by rw [← hh, Bd.state]; rfl
  have N0 := Fr.nil n0
  obtain ⟨T1, X1, e1, st1⟩ := getF X0 hx hZ hown (host := "") (Or.inl (tw_34 hw)) Via.refl e0 f1 (g := (mkF m 1 #[.val (.ref c0_a)] [(.ref c0_a)])) rfl rfl (hb hby d12_1)
  obtain ⟨fs, hr, hrun, hended, hW, hsame⟩ := X1.leave (v := (some (.int 1))) (fun h => by rw [Bd.returns] at h; cases h)
  refine ⟨_, _, castTop (ef12_R m c0_a) ?_, hrun, hended, _, _, rfl, ?_, ⟨_, rfl⟩, hW, hsame.mono (by decide) (by decide)⟩
  · show Steps p.tables e below (s₁.setTop (mkF m 0 #[.val (.ref c0_a)] [])) _
    refine XS.aloadN X0.here hx rfl (hb hby d12_0) rfl rfl ?_
    show Steps p.tables e below (s₁.setTop (mkF m 1 #[.val (.ref c0_a)] [(.ref c0_a)])) _
    refine st1 _ ?_
    refine XS.ifnullNo X1.here hx rfl (hb hby d12_4) rfl ?_
    refine XS.iconst X1.here hx rfl (hb hby d12_7) ?_
    refine XS.goto X1.here hx rfl (pc0 := 8) (pc' := 12) rfl (hb hby d12_8) (by decide) (by decide) ?_
    show Steps p.tables e below (T1.setTop (mkF m 12 #[.val (.ref c0_a)] [(.int 1)])) _
    exact retN X1 hx (t := .boolean) Bd.returns (by simp) (hb hby d12_12) hr
  · show QP (some (.int 1)) h0 n0 _ T1.heap _
    rw [e1]
    exact ⟨rfl, N0, rfl⟩
set_option maxRecDepth 65536 in
set_option maxHeartbeats 40000000 in
theorem rm14_133 (l : Launch) (Z : State) (a0 : Array Value) (hw : ∀ d ∈ tables_1, d.before a0 Z = true) (ws : List Jvm.Cond) (c0_a : Addr) (a_FORBIDDEN : Addr) (h0 : Heap) (n0 : Nat) (Z0 : n0 ≤ h0.size) (f1 : F_0 Z h0 c0_a (.ref a_FORBIDDEN)) :
    MetFree l M_12 (head1 (Jvm.Cond.code M_12 jdk_32_method_5_code 1 (some (.object "java/lang/Object")) :: ws) R_0_0_0_0) (fun a U => a = #[(.ref c0_a)] ∧ Z.Warmed39 U.vm ∧ U.heap = h0) (fun _ _ _ _ _ => True) (fun _ U o U' => ∃ v L, o = .returned v ∧ QP (some (.ref a_FORBIDDEN)) h0 n0 v U'.heap L ∧ FrameEnd U o U' L R_0_0_0_0.cells R_0_0_0_0.slots) := by
  refine MetFree.of_bodySF (plainFor_of_name pn_java_util_Optional) hisR ?_
  intro p e s m args below meth c s₁ Bd hml0 hP hK
  obtain ⟨rfl, hZ, hh⟩ := hP
  have hx := Bd.exec
  have hby := Bd.bytes
  have hml : c.maxLocals = 1 := hml0
  have hown : s.vm.findClass "java/util/Optional" = some m.cls := findClass_of_methodNamed Bd.named
  have hnm := (name_of_methodNamed Bd.named Bd.method).1
  have X0 : Stand p l e R_0_0_0_0 s m #[(.ref c0_a)] below meth c s₁ [] 0 0 := Stand.of_body Bd
  have e0 : s₁.heap = h0 := by rw [← hh, Bd.state]; rfl
  have N0 := Fr.nil n0
  obtain ⟨T1, X1, e1, st1⟩ := getF X0 hx hZ hown (host := "") (Or.inl (tw_34 hw)) Via.refl e0 f1 (g := (mkF m 1 #[.val (.ref c0_a)] [(.ref c0_a)])) rfl rfl (hb hby d14_1)
  obtain ⟨T2, X2, e2, st2⟩ := getF X1 hx hZ hown (host := "") (Or.inl (tw_34 hw)) Via.refl e1 f1 (g := (mkF m 18 #[.val (.ref c0_a)] [(.ref c0_a)])) rfl rfl (hb hby d14_18)
  obtain ⟨fs, hr, hrun, hended, hW, hsame⟩ := X2.leave (v := (some (.ref a_FORBIDDEN))) (fun h => by rw [Bd.returns] at h; cases h)
  refine ⟨_, _, castTop (ef14_R m c0_a) ?_, hrun, hended, _, _, rfl, ?_, ⟨_, rfl⟩, hW, hsame.mono (by decide) (by decide)⟩
  · show Steps p.tables e below (s₁.setTop (mkF m 0 #[.val (.ref c0_a)] [])) _
    refine XS.aloadN X0.here hx rfl (hb hby d14_0) rfl rfl ?_
    show Steps p.tables e below (s₁.setTop (mkF m 1 #[.val (.ref c0_a)] [(.ref c0_a)])) _
    refine st1 _ ?_
    refine XS.ifnonnullYes X1.here hx rfl (pc0 := 4) (pc' := 17) rfl (hb hby d14_4) rfl (by decide) (by decide) ?_
    refine XS.aloadN X1.here hx rfl (hb hby d14_17) rfl rfl ?_
    show Steps p.tables e below (T1.setTop (mkF m 18 #[.val (.ref c0_a)] [(.ref c0_a)])) _
    refine st2 _ ?_
    show Steps p.tables e below (T2.setTop (mkF m 21 #[.val (.ref c0_a)] [(.ref a_FORBIDDEN)])) _
    jvm_step X2.here [X2.here.top, hx, (hb hby d14_21), X2.method', Bd.returns, Value.isRef, FieldType.isReference]
    first | (intro acts; rw [hr _ acts rfl rfl rfl]) | rw [hr _ _ rfl rfl rfl]
    exact Steps.refl _
  · show QP (some (.ref a_FORBIDDEN)) h0 n0 _ T2.heap _
    rw [e2]
    exact ⟨rfl, N0, rfl⟩
set_option maxRecDepth 65536 in
set_option maxHeartbeats 40000000 in
theorem rm0_134 (l : Launch) (Z : State) (a0 : Array Value) (hw : ∀ d ∈ tables_1, d.before a0 Z = true) (ws : List Jvm.Cond) (p0 : Int32) (p1 : Int32) (a_FORBIDDEN : Addr) (a_EMPTY : Addr) (h0 : Heap) (n0 : Nat) (Z0 : n0 ≤ h0.size) (f1 : (p1 &&& (7 : Int32)) = (6 : Int32)) (f2 : S_6 Z h0 (.ref a_FORBIDDEN)) (f3 : S_8 Z h0 (.ref a_EMPTY)) (f4 : F_0 Z h0 a_EMPTY .null) (f5 : E_1 Z h0 a_EMPTY) :
    MetFree l x (head1 (Jvm.Cond.code x code maxLocals ret :: ws) room_1) (fun a U => a = #[(.int p0), (.int p1)] ∧ Z.Warmed39 U.vm ∧ U.heap = h0) (fun _ _ _ _ _ => True) (fun _ U o U' => ∃ v L, o = .returned v ∧ QT n0 v U'.heap L ∧ FrameEnd U o U' L room_1.cells room_1.slots) := by
  refine MetFree.of_bodySF (plainFor_of_name pn_com_example_corestone_corestone_LineRefusedPinLaw) hisR ?_
  intro p e s m args below meth c s₁ Bd hml0 hP hK
  obtain ⟨rfl, hZ, hh⟩ := hP
  have hx := Bd.exec
  have hby := Bd.bytes
  have hml : c.maxLocals = 4 := hml0
  have hown : s.vm.findClass "com/example/corestone/corestone/LineRefusedPinLaw" = some m.cls := findClass_of_methodNamed Bd.named
  have hnm := (name_of_methodNamed Bd.named Bd.method).1
  have X0 : Stand p l e room_1 s m #[(.int p0), (.int p1)] below meth c s₁ [] 0 0 := Stand.of_body Bd
  have e0 : s₁.heap = h0 := by rw [← hh, Bd.state]; rfl
  have N0 := Fr.nil n0
  -- pc 1: com/example/corestone/corestone/LineRefusedPinLaw.pick
  obtain ⟨_, _, ⟨T1, L1, k1, n1⟩, -, X1, ⟨Lc1, hQ1, l1, y1, z1⟩, st1⟩ := Jvm.LawKit.callS X0 hx (y := M_0) hown (mvT hZ (tw_0 hw)) (mvT hZ (tw_1 hw)) (mvT hZ (tw_2 hw)) (mvT hZ (tw_3 hw)) (by decide) (backOf (W := 0) (rm1_119 l Z a0 hw [] p1 a_FORBIDDEN h0 n0 Z0 f1 f2) hZ (tw_3 hw) (tw_2 hw) (by decide) (by decide)) (g := (mkF m 1 #[.val (.int p0), .val (.int p1), .unset, .unset] [(.int p1)])) rfl (by rw [hml]; rfl) (argsL := [(.int p1)]) (rest := []) (lenOf pd_0 rfl) rfl (by show 2 * 0 + _ ≤ _; exact Nat.le_of_eq rfl) (hb hby at_1) (fun _ _ => ⟨rfl, e0, (by decide : 0 + 0 ≤ _), (by decide : 0 + 0 ≤ _)⟩)
  dsimp only [Pt.U, Pt.locs, Pt.cells, Pt.slots] at X1 l1 y1 z1 st1 hQ1
  subst l1 y1 z1
  obtain ⟨rfl, Nq1, e1⟩ := hQ1
  have N1 := Fr.app N0 Nq1
  -- pc 7: com/example/corestone/corestone/BulkRequest$Line.refused
  obtain ⟨_, _, ⟨T2, L2, k2, n2⟩, -, X2, ⟨Lc2, hQ2, l2, y2, z2⟩, st2⟩ := Jvm.LawKit.callS X1 hx (y := M_7) hown (mvT hZ (tw_7 hw)) (mvT hZ (tw_8 hw)) (mvT hZ (tw_9 hw)) (mvT hZ (tw_10 hw)) (by decide) (backOf (W := 0) (rm2_128 l Z a0 hw [] p0 a_FORBIDDEN a_EMPTY h0 n0 Z0 f3) hZ (tw_10 hw) (tw_9 hw) (by decide) (by decide)) (g := (mkF m 7 #[.val (.int p0), .val (.int p1), .val (.ref a_FORBIDDEN), .unset] [(.ref a_FORBIDDEN), (.int p0)])) rfl (by rw [hml]; rfl) (argsL := [(.int p0), (.ref a_FORBIDDEN)]) (rest := []) (lenOf pd_7 rfl) rfl (by show 2 * 0 + _ ≤ _; exact Nat.le_of_eq rfl) (hb hby at_7) (fun _ _ => ⟨rfl, e1, (by decide : 0 + 2 ≤ _), (by decide : 0 + 4 ≤ _)⟩)
  dsimp only [Pt.U, Pt.locs, Pt.cells, Pt.slots] at X2 l2 y2 z2 st2 hQ2
  subst l2 y2 z2
  obtain ⟨b130, b131, rfl, Nq2, K2, le_b130, le_b131, o2_0, o2_1, o2_2, o2_3, o2_4, o2_5, o2_6⟩ := hQ2
  have N2 := Fr.app N1 Nq2
  have sz_b130 : h0.size ≤ b130 := Nat.le_trans (Nat.le_refl _) le_b130
  have g_b130 : n0 ≤ b130 := Nat.le_trans Z0 sz_b130
  have sz_b131 : h0.size ≤ b131 := Nat.le_trans (Nat.le_refl _) le_b131
  have g_b131 : n0 ≤ b131 := Nat.le_trans Z0 sz_b131
  have KK2 : Keep h0 T2.heap [] := (Keep.refl h0 []).trans K2 (fun x hx => nomatch hx)
  -- pc 18: com/example/corestone/corestone/BulkRequest$Line.number
  obtain ⟨cq3, kq3, q3a, q3b, q3c⟩ := isOf hZ rfl o2_0
  obtain ⟨_, _, ⟨T3, L3, k3, n3⟩, -, X3, ⟨Lc3, hQ3, l3, y3, z3⟩, st3⟩ := X2.virtualBack hx (y := M_8) (z := M_8) hown (mvT hZ (tw_51 hw)) (mvT hZ (tw_52 hw)) (notFace_of_selects (args := #[]) (mvT hZ (tw_54 hw))) (mvT hZ (tw_54 hw)) (mvT hZ (tw_53 hw)) (by decide) (backOf (W := 0) (rm10_32 l Z a0 hw [] b130 p0 T2.heap n0 (Nat.le_trans Z0 KK2.1) o2_1) hZ (tw_55 hw) (tw_9 hw) (by decide) (by decide)) q3a q3c (g := (mkF m 18 #[.val (.int p0), .val (.int p1), .val (.ref a_FORBIDDEN), .val (.ref b130)] [(.ref b130)])) rfl (by rw [hml]; rfl) (Steps.refl _) (argsL := []) (rest := []) (lenOf pd_8 rfl) rfl (by show 2 * 0 + _ ≤ _; exact Nat.le_of_eq rfl) (hb hby at_18) (fun _ _ => ⟨rfl, rfl, (by decide : 2 + 0 ≤ _), (by decide : 4 + 0 ≤ _)⟩)
  dsimp only [Pt.U, Pt.locs, Pt.cells, Pt.slots] at X3 l3 y3 z3 st3 hQ3
  subst l3 y3 z3
  obtain ⟨rfl, Nq3, e3⟩ := hQ3
  have N3 := Fr.app N2 Nq3
  -- pc 28: com/example/corestone/corestone/BulkRequest$Line.handle
  obtain ⟨cq4, kq4, q4a, q4b, q4c⟩ := isOf hZ e3 o2_0
  obtain ⟨_, _, ⟨T4, L4, k4, n4⟩, -, X4, ⟨Lc4, hQ4, l4, y4, z4⟩, st4⟩ := X3.virtualBack hx (y := M_9) (z := M_9) hown (mvT hZ (tw_56 hw)) (mvT hZ (tw_57 hw)) (notFace_of_selects (args := #[]) (mvT hZ (tw_59 hw))) (mvT hZ (tw_59 hw)) (mvT hZ (tw_58 hw)) (by decide) (backOf (W := 0) (rm11_33 l Z a0 hw [] b130 a_EMPTY T2.heap n0 (Nat.le_trans Z0 KK2.1) o2_2) hZ (tw_60 hw) (tw_9 hw) (by decide) (by decide)) q4a q4c (g := (mkF m 28 #[.val (.int p0), .val (.int p1), .val (.ref a_FORBIDDEN), .val (.ref b130)] [(.ref b130)])) rfl (by rw [hml]; rfl) (Steps.refl _) (argsL := []) (rest := []) (lenOf pd_1 rfl) rfl (by show 2 * 0 + _ ≤ _; exact Nat.le_of_eq rfl) (hb hby at_28) (fun _ _ => ⟨rfl, e3, (by decide : 2 + 0 ≤ _), (by decide : 4 + 0 ≤ _)⟩)
  dsimp only [Pt.U, Pt.locs, Pt.cells, Pt.slots] at X4 l4 y4 z4 st4 hQ4
  subst l4 y4 z4
  obtain ⟨rfl, Nq4, e4⟩ := hQ4
  have N4 := Fr.app N3 Nq4
  -- pc 35: com/example/corestone/corestone/BulkRequest$Line.handle
  obtain ⟨cq5, kq5, q5a, q5b, q5c⟩ := isOf hZ e4 o2_0
  obtain ⟨_, _, ⟨T5, L5, k5, n5⟩, -, X5, ⟨Lc5, hQ5, l5, y5, z5⟩, st5⟩ := X4.virtualBack hx (y := M_9) (z := M_9) hown (mvT hZ (tw_56 hw)) (mvT hZ (tw_57 hw)) (notFace_of_selects (args := #[]) (mvT hZ (tw_59 hw))) (mvT hZ (tw_59 hw)) (mvT hZ (tw_58 hw)) (by decide) (backOf (W := 0) (rm11_33 l Z a0 hw [] b130 a_EMPTY T2.heap n0 (Nat.le_trans Z0 KK2.1) o2_2) hZ (tw_60 hw) (tw_9 hw) (by decide) (by decide)) q5a q5c (g := (mkF m 35 #[.val (.int p0), .val (.int p1), .val (.ref a_FORBIDDEN), .val (.ref b130)] [(.ref b130)])) rfl (by rw [hml]; rfl) (Steps.refl _) (argsL := []) (rest := []) (lenOf pd_1 rfl) rfl (by show 2 * 0 + _ ≤ _; exact Nat.le_of_eq rfl) (hb hby at_35) (fun _ _ => ⟨rfl, e4, (by decide : 2 + 0 ≤ _), (by decide : 4 + 0 ≤ _)⟩)
  dsimp only [Pt.U, Pt.locs, Pt.cells, Pt.slots] at X5 l5 y5 z5 st5 hQ5
  subst l5 y5 z5
  obtain ⟨rfl, Nq5, e5⟩ := hQ5
  have N5 := Fr.app N4 Nq5
  -- pc 38: java/util/Optional.isPresent
  have u6 : F_0 Z T2.heap a_EMPTY .null := Fld.keep f4 K2 List.not_mem_nil
  have u8 : E_1 Z T2.heap a_EMPTY := Exa.keep f5 K2
  obtain ⟨cq7, kq7, q7a, q7b, q7c⟩ := isOf hZ e5 u8
  obtain ⟨_, _, ⟨T7, L7, k7, n7⟩, -, X7, ⟨Lc7, hQ7, l7, y7, z7⟩, st7⟩ := X5.virtualBack hx (y := M_10) (z := M_10) hown (mvT hZ (tw_61 hw)) (mvT hZ (tw_62 hw)) (notFace_of_selects (args := #[]) (mvT hZ (tw_64 hw))) (mvT hZ (tw_64 hw)) (mvT hZ (tw_63 hw)) (by decide) (backOf (W := 0) (rm12_34 l Z a0 hw [] a_EMPTY T2.heap n0 (Nat.le_trans Z0 KK2.1) u6) hZ (tw_65 hw) (tw_15 hw) (by decide) (by decide)) q7a q7c (g := (mkF m 38 #[.val (.int p0), .val (.int p1), .val (.ref a_FORBIDDEN), .val (.ref b130)] [(.ref a_EMPTY)])) rfl (by rw [hml]; rfl) (Steps.refl _) (argsL := []) (rest := []) (lenOf pd_9 rfl) rfl (by show 2 * 0 + _ ≤ _; exact Nat.le_of_eq rfl) (hb hby at_38) (fun _ _ => ⟨rfl, e5, (by decide : 2 + 0 ≤ _), (by decide : 4 + 0 ≤ _)⟩)
  dsimp only [Pt.U, Pt.locs, Pt.cells, Pt.slots] at X7 l7 y7 z7 st7 hQ7
  subst l7 y7 z7
  obtain ⟨rfl, Nq7, e7⟩ := hQ7
  have N7 := Fr.app N5 Nq7
  -- pc 47: com/example/corestone/corestone/BulkRequest$Line.refusal
  obtain ⟨cq9, kq9, q9a, q9b, q9c⟩ := isOf hZ e7 o2_0
  obtain ⟨_, _, ⟨T9, L9, k9, n9⟩, -, X9, ⟨Lc9, hQ9, l9, y9, z9⟩, st9⟩ := X7.virtualBack hx (y := M_11) (z := M_11) hown (mvT hZ (tw_66 hw)) (mvT hZ (tw_67 hw)) (notFace_of_selects (args := #[]) (mvT hZ (tw_69 hw))) (mvT hZ (tw_69 hw)) (mvT hZ (tw_68 hw)) (by decide) (backOf (W := 0) (rm13_35 l Z a0 hw [] b130 b131 T2.heap n0 (Nat.le_trans Z0 KK2.1) o2_3) hZ (tw_70 hw) (tw_9 hw) (by decide) (by decide)) q9a q9c (g := (mkF m 47 #[.val (.int p0), .val (.int p1), .val (.ref a_FORBIDDEN), .val (.ref b130)] [(.ref b130)])) rfl (by rw [hml]; rfl) (Steps.refl _) (argsL := []) (rest := []) (lenOf pd_1 rfl) rfl (by show 2 * 0 + _ ≤ _; exact Nat.le_of_eq rfl) (hb hby at_47) (fun _ _ => ⟨rfl, e7, (by decide : 2 + 0 ≤ _), (by decide : 4 + 0 ≤ _)⟩)
  dsimp only [Pt.U, Pt.locs, Pt.cells, Pt.slots] at X9 l9 y9 z9 st9 hQ9
  subst l9 y9 z9
  obtain ⟨rfl, Nq9, e9⟩ := hQ9
  have N9 := Fr.app N7 Nq9
  -- pc 54: com/example/corestone/corestone/BulkRequest$Line.refusal
  obtain ⟨cq10, kq10, q10a, q10b, q10c⟩ := isOf hZ e9 o2_0
  obtain ⟨_, _, ⟨T10, L10, k10, n10⟩, -, X10, ⟨Lc10, hQ10, l10, y10, z10⟩, st10⟩ := X9.virtualBack hx (y := M_11) (z := M_11) hown (mvT hZ (tw_66 hw)) (mvT hZ (tw_67 hw)) (notFace_of_selects (args := #[]) (mvT hZ (tw_69 hw))) (mvT hZ (tw_69 hw)) (mvT hZ (tw_68 hw)) (by decide) (backOf (W := 0) (rm13_35 l Z a0 hw [] b130 b131 T2.heap n0 (Nat.le_trans Z0 KK2.1) o2_3) hZ (tw_70 hw) (tw_9 hw) (by decide) (by decide)) q10a q10c (g := (mkF m 54 #[.val (.int p0), .val (.int p1), .val (.ref a_FORBIDDEN), .val (.ref b130)] [(.ref b130)])) rfl (by rw [hml]; rfl) (Steps.refl _) (argsL := []) (rest := []) (lenOf pd_1 rfl) rfl (by show 2 * 0 + _ ≤ _; exact Nat.le_of_eq rfl) (hb hby at_54) (fun _ _ => ⟨rfl, e9, (by decide : 2 + 0 ≤ _), (by decide : 4 + 0 ≤ _)⟩)
  dsimp only [Pt.U, Pt.locs, Pt.cells, Pt.slots] at X10 l10 y10 z10 st10 hQ10
  subst l10 y10 z10
  obtain ⟨rfl, Nq10, e10⟩ := hQ10
  have N10 := Fr.app N9 Nq10
  -- pc 57: java/util/Optional.isPresent
  obtain ⟨cq11, kq11, q11a, q11b, q11c⟩ := isOf hZ e10 o2_4
  obtain ⟨_, _, ⟨T11, L11, k11, n11⟩, -, X11, ⟨Lc11, hQ11, l11, y11, z11⟩, st11⟩ := X10.virtualBack hx (y := M_10) (z := M_10) hown (mvT hZ (tw_61 hw)) (mvT hZ (tw_62 hw)) (notFace_of_selects (args := #[]) (mvT hZ (tw_64 hw))) (mvT hZ (tw_64 hw)) (mvT hZ (tw_63 hw)) (by decide) (backOf (W := 0) (rm12_132 l Z a0 hw [] b131 a_FORBIDDEN T2.heap n0 (Nat.le_trans Z0 KK2.1) o2_5) hZ (tw_65 hw) (tw_15 hw) (by decide) (by decide)) q11a q11c (g := (mkF m 57 #[.val (.int p0), .val (.int p1), .val (.ref a_FORBIDDEN), .val (.ref b130)] [(.ref b131)])) rfl (by rw [hml]; rfl) (Steps.refl _) (argsL := []) (rest := []) (lenOf pd_9 rfl) rfl (by show 2 * 0 + _ ≤ _; exact Nat.le_of_eq rfl) (hb hby at_57) (fun _ _ => ⟨rfl, e10, (by decide : 2 + 0 ≤ _), (by decide : 4 + 0 ≤ _)⟩)
  dsimp only [Pt.U, Pt.locs, Pt.cells, Pt.slots] at X11 l11 y11 z11 st11 hQ11
  subst l11 y11 z11
  obtain ⟨rfl, Nq11, e11⟩ := hQ11
  have N11 := Fr.app N10 Nq11
  -- pc 66: com/example/corestone/corestone/BulkRequest$Line.refusal
  obtain ⟨cq12, kq12, q12a, q12b, q12c⟩ := isOf hZ e11 o2_0
  obtain ⟨_, _, ⟨T12, L12, k12, n12⟩, -, X12, ⟨Lc12, hQ12, l12, y12, z12⟩, st12⟩ := X11.virtualBack hx (y := M_11) (z := M_11) hown (mvT hZ (tw_66 hw)) (mvT hZ (tw_67 hw)) (notFace_of_selects (args := #[]) (mvT hZ (tw_69 hw))) (mvT hZ (tw_69 hw)) (mvT hZ (tw_68 hw)) (by decide) (backOf (W := 0) (rm13_35 l Z a0 hw [] b130 b131 T2.heap n0 (Nat.le_trans Z0 KK2.1) o2_3) hZ (tw_70 hw) (tw_9 hw) (by decide) (by decide)) q12a q12c (g := (mkF m 66 #[.val (.int p0), .val (.int p1), .val (.ref a_FORBIDDEN), .val (.ref b130)] [(.ref b130)])) rfl (by rw [hml]; rfl) (Steps.refl _) (argsL := []) (rest := []) (lenOf pd_1 rfl) rfl (by show 2 * 0 + _ ≤ _; exact Nat.le_of_eq rfl) (hb hby at_66) (fun _ _ => ⟨rfl, e11, (by decide : 2 + 0 ≤ _), (by decide : 4 + 0 ≤ _)⟩)
  dsimp only [Pt.U, Pt.locs, Pt.cells, Pt.slots] at X12 l12 y12 z12 st12 hQ12
  subst l12 y12 z12
  obtain ⟨rfl, Nq12, e12⟩ := hQ12
  have N12 := Fr.app N11 Nq12
  -- pc 69: java/util/Optional.get
  obtain ⟨cq13, kq13, q13a, q13b, q13c⟩ := isOf hZ e12 o2_4
  obtain ⟨_, _, ⟨T13, L13, k13, n13⟩, -, X13, ⟨Lc13, hQ13, l13, y13, z13⟩, st13⟩ := X12.virtualBack hx (y := M_12) (z := M_12) hown (mvT hZ (tw_71 hw)) (mvT hZ (tw_72 hw)) (notFace_of_selects (args := #[]) (mvT hZ (tw_74 hw))) (mvT hZ (tw_74 hw)) (mvT hZ (tw_73 hw)) (by decide) (backOf (W := 0) (rm14_133 l Z a0 hw [] b131 a_FORBIDDEN T2.heap n0 (Nat.le_trans Z0 KK2.1) o2_5) hZ (tw_75 hw) (tw_15 hw) (by decide) (by decide)) q13a q13c (g := (mkF m 69 #[.val (.int p0), .val (.int p1), .val (.ref a_FORBIDDEN), .val (.ref b130)] [(.ref b131)])) rfl (by rw [hml]; rfl) (Steps.refl _) (argsL := []) (rest := []) (lenOf pd_10 rfl) rfl (by show 2 * 0 + _ ≤ _; exact Nat.le_of_eq rfl) (hb hby at_69) (fun _ _ => ⟨rfl, e12, (by decide : 2 + 0 ≤ _), (by decide : 4 + 0 ≤ _)⟩)
  dsimp only [Pt.U, Pt.locs, Pt.cells, Pt.slots] at X13 l13 y13 z13 st13 hQ13
  subst l13 y13 z13
  obtain ⟨rfl, Nq13, e13⟩ := hQ13
  have N13 := Fr.app N12 Nq13
  obtain ⟨fs, hr, hrun, hended, hW, hsame⟩ := X13.leave (v := (some (.int 1))) (fun h => by rw [Bd.returns] at h; cases h)
  refine ⟨_, _, castTop (ef0_II m p0 p1) ?_, hrun, hended, _, _, rfl, ?_, ⟨_, rfl⟩, hW, hsame.mono (by decide) (by decide)⟩
  · show Steps p.tables e below (s₁.setTop (mkF m 0 #[.val (.int p0), .val (.int p1), .unset, .unset] [])) _
    refine XS.iloadN X0.here hx rfl (hb hby at_0) rfl ?_
    show Steps p.tables e below (s₁.setTop (mkF m 1 #[.val (.int p0), .val (.int p1), .unset, .unset] [(.int p1)])) _
    refine st1 _ ?_
    refine XS.astoreN X1.here hx rfl (hb hby at_4) rfl rfl (l' := #[.val (.int p0), .val (.int p1), .val (.ref a_FORBIDDEN), .unset]) rfl ?_
    refine XS.iloadN X1.here hx rfl (hb hby at_5) rfl ?_
    refine XS.aloadN X1.here hx rfl (hb hby at_6) rfl rfl ?_
    show Steps p.tables e below (T1.setTop (mkF m 7 #[.val (.int p0), .val (.int p1), .val (.ref a_FORBIDDEN), .unset] [(.ref a_FORBIDDEN), (.int p0)])) _
    refine st2 _ ?_
    refine XS.astoreN X2.here hx rfl (hb hby at_10) rfl rfl (l' := #[.val (.int p0), .val (.int p1), .val (.ref a_FORBIDDEN), .val (.ref b130)]) rfl ?_
    refine XS.aloadN X2.here hx rfl (hb hby at_11) rfl rfl ?_
    refine XS.ifnonnullYes X2.here hx rfl (pc0 := 12) (pc' := 17) rfl (hb hby at_12) rfl (by decide) (by decide) ?_
    refine XS.aloadN X2.here hx rfl (hb hby at_17) rfl rfl ?_
    show Steps p.tables e below (T2.setTop (mkF m 18 #[.val (.int p0), .val (.int p1), .val (.ref a_FORBIDDEN), .val (.ref b130)] [(.ref b130)])) _
    refine st3.trans ?_
    refine XS.iloadN X3.here hx rfl (hb hby at_21) rfl ?_
    refine XS.icmpYes X3.here hx rfl (pc0 := 22) (pc' := 27) rfl (hb hby at_22) rfl (teq (rfl : p0 = p0)).1 (by decide) (by decide) ?_
    refine XS.aloadN X3.here hx rfl (hb hby at_27) rfl rfl ?_
    show Steps p.tables e below (T3.setTop (mkF m 28 #[.val (.int p0), .val (.int p1), .val (.ref a_FORBIDDEN), .val (.ref b130)] [(.ref b130)])) _
    refine st4.trans ?_
    refine XS.ifnullNo X4.here hx rfl (hb hby at_31) rfl ?_
    refine XS.aloadN X4.here hx rfl (hb hby at_34) rfl rfl ?_
    show Steps p.tables e below (T4.setTop (mkF m 35 #[.val (.int p0), .val (.int p1), .val (.ref a_FORBIDDEN), .val (.ref b130)] [(.ref b130)])) _
    refine st5.trans ?_
    show Steps p.tables e below (T5.setTop (mkF m 38 #[.val (.int p0), .val (.int p1), .val (.ref a_FORBIDDEN), .val (.ref b130)] [(.ref a_EMPTY)])) _
    refine st7.trans ?_
    refine XS.ifYes X7.here hx rfl (pc0 := 41) (pc' := 46) rfl (hb hby at_41) rfl (by decide) (by decide) (by decide) ?_
    refine XS.aloadN X7.here hx rfl (hb hby at_46) rfl rfl ?_
    show Steps p.tables e below (T7.setTop (mkF m 47 #[.val (.int p0), .val (.int p1), .val (.ref a_FORBIDDEN), .val (.ref b130)] [(.ref b130)])) _
    refine st9.trans ?_
    refine XS.ifnullNo X9.here hx rfl (hb hby at_50) rfl ?_
    refine XS.aloadN X9.here hx rfl (hb hby at_53) rfl rfl ?_
    show Steps p.tables e below (T9.setTop (mkF m 54 #[.val (.int p0), .val (.int p1), .val (.ref a_FORBIDDEN), .val (.ref b130)] [(.ref b130)])) _
    refine st10.trans ?_
    show Steps p.tables e below (T10.setTop (mkF m 57 #[.val (.int p0), .val (.int p1), .val (.ref a_FORBIDDEN), .val (.ref b130)] [(.ref b131)])) _
    refine st11.trans ?_
    refine XS.ifYes X11.here hx rfl (pc0 := 60) (pc' := 65) rfl (hb hby at_60) rfl (by decide) (by decide) (by decide) ?_
    refine XS.aloadN X11.here hx rfl (hb hby at_65) rfl rfl ?_
    show Steps p.tables e below (T11.setTop (mkF m 66 #[.val (.int p0), .val (.int p1), .val (.ref a_FORBIDDEN), .val (.ref b130)] [(.ref b130)])) _
    refine st12.trans ?_
    show Steps p.tables e below (T12.setTop (mkF m 69 #[.val (.int p0), .val (.int p1), .val (.ref a_FORBIDDEN), .val (.ref b130)] [(.ref b131)])) _
    refine st13.trans ?_
    refine XS.aloadN X13.here hx rfl (hb hby at_72) rfl rfl ?_
    show Steps p.tables e below (T13.setTop (mkF m 73 #[.val (.int p0), .val (.int p1), .val (.ref a_FORBIDDEN), .val (.ref b130)] [(.ref a_FORBIDDEN), (.ref a_FORBIDDEN)])) _
    refine Jvm.RoadKit.acmp (g := (mkF m 73 #[.val (.int p0), .val (.int p1), .val (.ref a_FORBIDDEN), .val (.ref b130)] [(.ref a_FORBIDDEN), (.ref a_FORBIDDEN)])) X13 hx rfl rfl rfl (pc0 := 73) (pc' := 76) (same := true) rfl (hb hby at_73) rfl (decide_eq_true rfl) (by decide) (by decide) ?_
    refine XS.iconst X13.here hx rfl (hb hby at_76) ?_
    refine XS.goto X13.here hx rfl (pc0 := 77) (pc' := 81) rfl (hb hby at_77) (by decide) (by decide) ?_
    show Steps p.tables e below (T13.setTop (mkF m 81 #[.val (.int p0), .val (.int p1), .val (.ref a_FORBIDDEN), .val (.ref b130)] [(.int 1)])) _
    exact retN X13 hx (t := .boolean) Bd.returns (by simp) (hb hby at_81) hr
  · show QT n0 _ T13.heap _
    rw [e13]
    exact ⟨rfl, N13⟩
theorem d1_68 : decode method_2_code 68 = .ok (.getstatic 31, 3) := by decide +kernel
theorem tw_84 {a0 : Array Value} {Z : State} (hw : ∀ d ∈ tables_1, d.before a0 Z = true) : (Jvm.Cond.fieldLink "com/example/corestone/corestone/LineRefusedPinLaw" (31 : Nat) "com/example/corestone/corestone/RefusedException$Refusal" "QUOTA_EXCEEDED" "Lcom/example/corestone/corestone/RefusedException$Refusal;").before a0 Z = true := hw _ (List.mem_of_getElem? (i := 84) rfl)
theorem d1_71 : decode method_2_code 71 = .ok (.areturn, 1) := by decide +kernel
set_option maxRecDepth 65536 in
set_option maxHeartbeats 40000000 in
theorem rm1_135 (l : Launch) (Z : State) (a0 : Array Value) (hw : ∀ d ∈ tables_1, d.before a0 Z = true) (ws : List Jvm.Cond) (p1 : Int32) (a_QUOTA_EXCEEDED : Addr) (h0 : Heap) (n0 : Nat) (Z0 : n0 ≤ h0.size) (f1 : (p1 &&& (7 : Int32)) = (7 : Int32)) (f2 : S_5 Z h0 (.ref a_QUOTA_EXCEEDED)) :
    MetFree l M_0 (head1 (Jvm.Cond.code M_0 method_2_code 2 (some (.object "com/example/corestone/corestone/RefusedException$Refusal")) :: ws) R_0_0_0_0) (fun a U => a = #[(.int p1)] ∧ Z.Warmed39 U.vm ∧ U.heap = h0) (fun _ _ _ _ _ => True) (fun _ U o U' => ∃ v L, o = .returned v ∧ QP (some (.ref a_QUOTA_EXCEEDED)) h0 n0 v U'.heap L ∧ FrameEnd U o U' L R_0_0_0_0.cells R_0_0_0_0.slots) := by
  refine MetFree.of_bodySF (plainFor_of_name pn_com_example_corestone_corestone_LineRefusedPinLaw) hisR ?_
  intro p e s m args below meth c s₁ Bd hml0 hP hK
  obtain ⟨rfl, hZ, hh⟩ := hP
  have hx := Bd.exec
  have hby := Bd.bytes
  have hml : c.maxLocals = 2 := hml0
  have hown : s.vm.findClass "com/example/corestone/corestone/LineRefusedPinLaw" = some m.cls := findClass_of_methodNamed Bd.named
  have hnm := (name_of_methodNamed Bd.named Bd.method).1
  have X0 : Stand p l e R_0_0_0_0 s m #[(.int p1)] below meth c s₁ [] 0 0 := Stand.of_body Bd
  have e0 : s₁.heap = h0 := by rw [← hh, Bd.state]; rfl
  have N0 := Fr.nil n0
  obtain ⟨T1, X1, e1, st1⟩ := getS2 X0 hx hZ hown (host := "") (Or.inl (tw_84 hw)) Via.refl e0 f2 (g := (mkF m 68 #[.val (.int p1), .val (.int 7)] [])) rfl (hb hby d1_68)
  obtain ⟨fs, hr, hrun, hended, hW, hsame⟩ := X1.leave (v := (some (.ref a_QUOTA_EXCEEDED))) (fun h => by rw [Bd.returns] at h; cases h)
  refine ⟨_, _, castTop (ef1_I m p1) ?_, hrun, hended, _, _, rfl, ?_, ⟨_, rfl⟩, hW, hsame.mono (by decide) (by decide)⟩
  · show Steps p.tables e below (s₁.setTop (mkF m 0 #[.val (.int p1), .unset] [])) _
    refine XS.iloadN X0.here hx rfl (hb hby d1_0) rfl ?_
    refine XS.bipush X0.here hx rfl (hb hby d1_1) ?_
    show Steps p.tables e below (s₁.setTop (mkF m 3 #[.val (.int p1), .unset] [(.int 7), (.int p1)])) _
    refine XS.iand X0.here hx rfl (hb hby d1_3) rfl ?_
    show Steps p.tables e below (s₁.setTop (mkF m 4 #[.val (.int p1), .unset] [(.int (p1 &&& (7 : Int32)))])) _
    rw [f1]
    refine XS.istoreN X0.here hx rfl (hb hby d1_4) rfl (l' := #[.val (.int p1), .val (.int 7)]) rfl ?_
    refine XS.iloadN X0.here hx rfl (hb hby d1_5) rfl ?_
    refine XS.ifYes X0.here hx rfl (pc0 := 6) (pc' := 13) rfl (hb hby d1_6) rfl (by decide) (by decide) (by decide) ?_
    refine XS.iloadN X0.here hx rfl (hb hby d1_13) rfl ?_
    show Steps p.tables e below (s₁.setTop (mkF m 14 #[.val (.int p1), .val (.int 7)] [(.int 7)])) _
    refine XS.iconst X0.here hx rfl (hb hby d1_14) ?_
    refine XS.icmpYes X0.here hx rfl (pc0 := 15) (pc' := 22) rfl (hb hby d1_15) rfl (by decide) (by decide) (by decide) ?_
    refine XS.iloadN X0.here hx rfl (hb hby d1_22) rfl ?_
    refine XS.iconst X0.here hx rfl (hb hby d1_23) ?_
    refine XS.icmpYes X0.here hx rfl (pc0 := 24) (pc' := 31) rfl (hb hby d1_24) rfl (by decide) (by decide) (by decide) ?_
    show Steps p.tables e below (s₁.setTop (mkF m 31 #[.val (.int p1), .val (.int 7)] [])) _
    refine XS.iloadN X0.here hx rfl (hb hby d1_31) rfl ?_
    refine XS.iconst X0.here hx rfl (hb hby d1_32) ?_
    refine XS.icmpYes X0.here hx rfl (pc0 := 33) (pc' := 40) rfl (hb hby d1_33) rfl (by decide) (by decide) (by decide) ?_
    refine XS.iloadN X0.here hx rfl (hb hby d1_40) rfl ?_
    refine XS.iconst X0.here hx rfl (hb hby d1_41) ?_
    show Steps p.tables e below (s₁.setTop (mkF m 42 #[.val (.int p1), .val (.int 7)] [(.int 4), (.int 7)])) _
    refine XS.icmpYes X0.here hx rfl (pc0 := 42) (pc' := 49) rfl (hb hby d1_42) rfl (by decide) (by decide) (by decide) ?_
    refine XS.iloadN X0.here hx rfl (hb hby d1_49) rfl ?_
    refine XS.iconst X0.here hx rfl (hb hby d1_50) ?_
    refine XS.icmpYes X0.here hx rfl (pc0 := 51) (pc' := 58) rfl (hb hby d1_51) rfl (by decide) (by decide) (by decide) ?_
    refine XS.iloadN X0.here hx rfl (hb hby d1_58) rfl ?_
    show Steps p.tables e below (s₁.setTop (mkF m 59 #[.val (.int p1), .val (.int 7)] [(.int 7)])) _
    refine XS.bipush X0.here hx rfl (hb hby d1_59) ?_
    refine XS.icmpYes X0.here hx rfl (pc0 := 61) (pc' := 68) rfl (hb hby d1_61) rfl (by decide) (by decide) (by decide) ?_
    show Steps p.tables e below (s₁.setTop (mkF m 68 #[.val (.int p1), .val (.int 7)] [])) _
    refine st1 _ ?_
    show Steps p.tables e below (T1.setTop (mkF m 71 #[.val (.int p1), .val (.int 7)] [(.ref a_QUOTA_EXCEEDED)])) _
    jvm_step X1.here [X1.here.top, hx, (hb hby d1_71), X1.method', Bd.returns, Value.isRef, FieldType.isReference]
    first | (intro acts; rw [hr _ acts rfl rfl rfl]) | rw [hr _ _ rfl rfl rfl]
    exact Steps.refl _
  · show QP (some (.ref a_QUOTA_EXCEEDED)) h0 n0 _ T1.heap _
    rw [e1]
    exact ⟨rfl, N0, rfl⟩
set_option maxRecDepth 65536 in
set_option maxHeartbeats 40000000 in
theorem rm5_138 (l : Launch) (Z : State) (a0 : Array Value) (hw : ∀ d ∈ tables_1, d.before a0 Z = true) (ws : List Jvm.Cond) (a_QUOTA_EXCEEDED : Addr) (h0 : Heap) (n0 : Nat) (Z0 : n0 ≤ h0.size) :
    MetFree l M_2 (head1 (Jvm.Cond.code M_2 jdk_31_method_10_code 1 (some (.object "java/lang/Object")) :: ws) R_0_0_0_0) (fun a U => a = #[(.ref a_QUOTA_EXCEEDED)] ∧ Z.Warmed39 U.vm ∧ U.heap = h0) (fun _ _ _ _ _ => True) (fun _ U o U' => ∃ v L, o = .returned v ∧ QP (some (.ref a_QUOTA_EXCEEDED)) h0 n0 v U'.heap L ∧ FrameEnd U o U' L R_0_0_0_0.cells R_0_0_0_0.slots) := by
  refine MetFree.of_bodySF (plainFor_of_name pn_java_util_Objects) hisR ?_
  intro p e s m args below meth c s₁ Bd hml0 hP hK
  obtain ⟨rfl, hZ, hh⟩ := hP
  have hx := Bd.exec
  have hby := Bd.bytes
  have hml : c.maxLocals = 1 := hml0
  have hown : s.vm.findClass "java/util/Objects" = some m.cls := findClass_of_methodNamed Bd.named
  have hnm := (name_of_methodNamed Bd.named Bd.method).1
  have X0 : Stand p l e R_0_0_0_0 s m #[(.ref a_QUOTA_EXCEEDED)] below meth c s₁ [] 0 0 := Stand.of_body Bd
  have e0 : s₁.heap = h0 := by rw [← hh, Bd.state]; rfl
  have N0 := Fr.nil n0
  obtain ⟨fs, hr, hrun, hended, hW, hsame⟩ := X0.leave (v := (some (.ref a_QUOTA_EXCEEDED))) (fun h => by rw [Bd.returns] at h; cases h)
  refine ⟨_, _, castTop (ef5_R m a_QUOTA_EXCEEDED) ?_, hrun, hended, _, _, rfl, ?_, ⟨_, rfl⟩, hW, hsame.mono (by decide) (by decide)⟩
  · show Steps p.tables e below (s₁.setTop (mkF m 0 #[.val (.ref a_QUOTA_EXCEEDED)] [])) _
    refine XS.aloadN X0.here hx rfl (hb hby d5_0) rfl rfl ?_
    refine XS.ifnonnullYes X0.here hx rfl (pc0 := 1) (pc' := 12) rfl (hb hby d5_1) rfl (by decide) (by decide) ?_
    refine XS.aloadN X0.here hx rfl (hb hby d5_12) rfl rfl ?_
    show Steps p.tables e below (s₁.setTop (mkF m 13 #[.val (.ref a_QUOTA_EXCEEDED)] [(.ref a_QUOTA_EXCEEDED)])) _
    jvm_step X0.here [X0.here.top, hx, (hb hby d5_13), X0.method', Bd.returns, Value.isRef, FieldType.isReference]
    first | (intro acts; rw [hr _ acts rfl rfl rfl]) | rw [hr _ _ rfl rfl rfl]
    exact Steps.refl _
  · show QP (some (.ref a_QUOTA_EXCEEDED)) h0 n0 _ s₁.heap _
    rw [e0]
    exact ⟨rfl, N0, rfl⟩
def Q6_140 (Z : State) (c0_a : Addr) (a_QUOTA_EXCEEDED : Addr) (h0 : Heap) (n0 : Nat) (v : Option Value) (h : Heap) (L : List Loc) : Prop := v = none ∧ Fr n0 L ∧ Keep h0 h [c0_a] ∧ F_0 Z h c0_a (.ref a_QUOTA_EXCEEDED)
set_option maxRecDepth 65536 in
set_option maxHeartbeats 40000000 in
theorem rm6_139 (l : Launch) (Z : State) (a0 : Array Value) (hw : ∀ d ∈ tables_1, d.before a0 Z = true) (ws : List Jvm.Cond) (c0_a : Addr) (a_QUOTA_EXCEEDED : Addr) (h0 : Heap) (n0 : Nat) (Z0 : n0 ≤ h0.size) (f1 : F_0 Z h0 c0_a .null) (f2 : E_1 Z h0 c0_a) (f3 : n0 ≤ c0_a) :
    MetFree l M_3 (head1 (Jvm.Cond.code M_3 jdk_32_method_2_code 2 none :: ws) R_1_0_0_12) (fun a U => a = #[(.ref c0_a), (.ref a_QUOTA_EXCEEDED)] ∧ Z.Warmed39 U.vm ∧ U.heap = h0) (fun _ _ _ _ _ => True) (fun _ U o U' => ∃ v L, o = .returned v ∧ Q6_140 Z c0_a a_QUOTA_EXCEEDED h0 n0 v U'.heap L ∧ FrameEnd U o U' L R_1_0_0_12.cells R_1_0_0_12.slots) := by
  refine MetFree.of_bodySF (plainFor_of_name pn_java_util_Optional) hisR ?_
  intro p e s m args below meth c s₁ Bd hml0 hP hK
  obtain ⟨rfl, hZ, hh⟩ := hP
  have hx := Bd.exec
  have hby := Bd.bytes
  have hml : c.maxLocals = 2 := hml0
  have hown : s.vm.findClass "java/util/Optional" = some m.cls := findClass_of_methodNamed Bd.named
  have hnm := (name_of_methodNamed Bd.named Bd.method).1
  have X0 : Stand p l e R_1_0_0_12 s m #[(.ref c0_a), (.ref a_QUOTA_EXCEEDED)] below meth c s₁ [] 0 0 := Stand.of_body Bd
  have e0 : s₁.heap = h0 := by rw [← hh, Bd.state]; rfl
  have N0 := Fr.nil n0
  obtain ⟨T1, X1, e1, st1⟩ := initO X0 hx hZ hown (tw_31 hw) (tw_32 hw) (tw_33 hw) e0 (g := (mkF m 1 #[.val (.ref c0_a), .val (.ref a_QUOTA_EXCEEDED)] [(.ref c0_a)])) rfl (by rw [hml]; rfl) rfl (hb hby d6_1) (by decide) (W := 0) (by show 2 * 0 + _ ≤ _; exact Nat.le_of_eq rfl) (by decide)
  obtain ⟨T2, h2, X2, e2, W2, st2⟩ := putF X1 hx hZ hown (host := "") (Or.inl (tw_34 hw)) Via.refl e1 f1 f2 (Or.inr ⟨(tw_35 hw), rfl, hnm⟩) (tw_22 hw) (ty := (.object "java/lang/Object")) (by decide) rfl rfl (g := (mkF m 6 #[.val (.ref c0_a), .val (.ref a_QUOTA_EXCEEDED)] [(.ref a_QUOTA_EXCEEDED), (.ref c0_a)])) rfl rfl (hb hby d6_6)
  have Fw2 : F_0 Z h2 c0_a (.ref a_QUOTA_EXCEEDED) := Fld.same W2 f1
  have KK2 : Keep h0 h2 [c0_a] := (Keep.refl h0 [c0_a]).wr W2 (Or.inl (List.mem_of_getElem? (i := 0) rfl))
  have N2 := Fr.snoc X2 N0 f3
  obtain ⟨fs, hr, hrun, hended, hW, hsame⟩ := X2.leave (v := none) (fun _ => rfl)
  refine ⟨_, _, castTop (ef6_RR m c0_a a_QUOTA_EXCEEDED) ?_, hrun, hended, _, _, rfl, ?_, ⟨_, rfl⟩, hW, hsame.mono (by decide) (by decide)⟩
  · show Steps p.tables e below (s₁.setTop (mkF m 0 #[.val (.ref c0_a), .val (.ref a_QUOTA_EXCEEDED)] [])) _
    refine XS.aloadN X0.here hx rfl (hb hby d6_0) rfl rfl ?_
    show Steps p.tables e below (s₁.setTop (mkF m 1 #[.val (.ref c0_a), .val (.ref a_QUOTA_EXCEEDED)] [(.ref c0_a)])) _
    refine st1 _ ?_
    refine XS.aloadN X1.here hx rfl (hb hby d6_4) rfl rfl ?_
    refine XS.aloadN X1.here hx rfl (hb hby d6_5) rfl rfl ?_
    show Steps p.tables e below (T1.setTop (mkF m 6 #[.val (.ref c0_a), .val (.ref a_QUOTA_EXCEEDED)] [(.ref a_QUOTA_EXCEEDED), (.ref c0_a)])) _
    refine st2 _ ?_
    show Steps p.tables e below (T2.setTop (mkF m 9 #[.val (.ref c0_a), .val (.ref a_QUOTA_EXCEEDED)] [])) _
    exact X2.returnOut hx Bd.returns (hb hby d6_9) hr
  · show Q6_140 Z c0_a a_QUOTA_EXCEEDED h0 n0 _ T2.heap _
    rw [e2]
    exact ⟨rfl, N2, KK2, Fw2⟩
def Q4_142 (Z : State) (a_QUOTA_EXCEEDED : Addr) (h0 : Heap) (n0 : Nat) (v : Option Value) (h : Heap) (L : List Loc) : Prop := ∃ (b137 : Addr), v = (some (.ref b137)) ∧ Fr n0 L ∧ Keep h0 h [] ∧ h0.size ≤ b137 ∧ E_1 Z h b137 ∧ F_0 Z h b137 (.ref a_QUOTA_EXCEEDED)
set_option maxRecDepth 65536 in
set_option maxHeartbeats 40000000 in
theorem rm4_141 (l : Launch) (Z : State) (a0 : Array Value) (hw : ∀ d ∈ tables_1, d.before a0 Z = true) (ws : List Jvm.Cond) (a_QUOTA_EXCEEDED : Addr) (h0 : Heap) (n0 : Nat) (Z0 : n0 ≤ h0.size) :
    MetFree l M_4 (head1 (Jvm.Cond.code M_4 jdk_32_method_3_code 1 (some (.object "java/util/Optional")) :: ws) R_2_1_1_26) (fun a U => a = #[(.ref a_QUOTA_EXCEEDED)] ∧ Z.Warmed39 U.vm ∧ U.heap = h0) (fun _ _ _ _ _ => True) (fun _ U o U' => ∃ v L, o = .returned v ∧ Q4_142 Z a_QUOTA_EXCEEDED h0 n0 v U'.heap L ∧ FrameEnd U o U' L R_2_1_1_26.cells R_2_1_1_26.slots) := by
  refine MetFree.of_bodySF (plainFor_of_name pn_java_util_Optional) hisR ?_
  intro p e s m args below meth c s₁ Bd hml0 hP hK
  obtain ⟨rfl, hZ, hh⟩ := hP
  have hx := Bd.exec
  have hby := Bd.bytes
  have hml : c.maxLocals = 1 := hml0
  have hown : s.vm.findClass "java/util/Optional" = some m.cls := findClass_of_methodNamed Bd.named
  have hnm := (name_of_methodNamed Bd.named Bd.method).1
  have X0 : Stand p l e R_2_1_1_26 s m #[(.ref a_QUOTA_EXCEEDED)] below meth c s₁ [] 0 0 := Stand.of_body Bd
  have e0 : s₁.heap = h0 := by rw [← hh, Bd.state]; rfl
  have N0 := Fr.nil n0
  obtain ⟨T1, h1, X1, e1, E1, A1, D1, -, st1⟩ := newO X0 hx hZ hown (tw_21 hw) (tw_22 hw) (tw_15 hw) e0 (g := (mkF m 0 #[.val (.ref a_QUOTA_EXCEEDED)] [])) rfl (hb hby d4_0) (by decide) (by decide)
  obtain ⟨b137, g1⟩ : ∃ z, z = h0.size := ⟨_, rfl⟩
  rw [← g1] at A1 D1 st1
  have sz_b137 : h0.size ≤ b137 := Nat.le_trans (Nat.le_refl _) (Nat.le_of_eq g1.symm)
  have g_b137 : n0 ≤ b137 := Nat.le_trans Z0 sz_b137
  have KK1 : Keep h0 h1 [] := (Keep.refl h0 []).ext E1
  have F1_35 : F_0 Z h1 b137 .null := D1 (Or.inr (tw_35 hw)) (ty := (.object "java/lang/Object")) (by decide)
  -- pc 5: java/util/Objects.requireNonNull
  obtain ⟨_, _, ⟨T2, L2, k2, n2⟩, -, X2, ⟨Lc2, hQ2, l2, y2, z2⟩, st2⟩ := Jvm.LawKit.callS X1 hx (y := M_2) hown (mvT hZ (tw_23 hw)) (mvT hZ (tw_24 hw)) (mvT hZ (tw_25 hw)) (mvT hZ (tw_26 hw)) (by decide) (backOf (W := 2) (rm5_138 l Z a0 hw [] a_QUOTA_EXCEEDED h1 n0 (Nat.le_trans Z0 KK1.1) ) hZ (tw_26 hw) (tw_25 hw) (by decide) (by decide)) (g := (mkF m 5 #[.val (.ref a_QUOTA_EXCEEDED)] [(.ref a_QUOTA_EXCEEDED), (.ref b137), (.ref b137)])) rfl (by rw [hml]; rfl) (argsL := [(.ref a_QUOTA_EXCEEDED)]) (rest := [(.ref b137), (.ref b137)]) (lenOf pd_2 rfl) rfl (by show 2 * 0 + _ ≤ _; exact Nat.le_of_eq rfl) (hb hby d4_5) (fun _ _ => ⟨rfl, e1, (by decide : 1 + 0 ≤ _), (by decide : 1 + 0 ≤ _)⟩)
  dsimp only [Pt.U, Pt.locs, Pt.cells, Pt.slots] at X2 l2 y2 z2 st2 hQ2
  subst l2 y2 z2
  obtain ⟨rfl, Nq2, e2⟩ := hQ2
  have N2 := Fr.app N0 Nq2
  -- pc 8: java/util/Optional.<init>
  obtain ⟨_, _, ⟨T3, L3, k3, n3⟩, -, X3, ⟨Lc3, hQ3, l3, y3, z3⟩, st3⟩ := X2.specialBack hx (y := M_3) rfl hown (mvT hZ (tw_27 hw)) (mvT hZ (tw_28 hw)) (mvT hZ (tw_30 hw)) (by decide) (backOf (W := 1) (rm6_139 l Z a0 hw [] b137 a_QUOTA_EXCEEDED h1 n0 (Nat.le_trans Z0 KK1.1) F1_35 A1 g_b137) hZ (tw_30 hw) (tw_15 hw) (by decide) (by decide)) (g := (mkF m 8 #[.val (.ref a_QUOTA_EXCEEDED)] [(.ref a_QUOTA_EXCEEDED), (.ref b137), (.ref b137)])) rfl (by rw [hml]; rfl) (Steps.refl _) (a := b137) (argsL := [(.ref a_QUOTA_EXCEEDED)]) (rest := [(.ref b137)]) (lenOf pd_3 rfl) rfl (by show 2 * 0 + _ ≤ _; exact Nat.le_of_eq rfl) (hb hby d4_8) (fun _ _ => ⟨rfl, e2, (by decide : 1 + 0 ≤ _), (by decide : 1 + 0 ≤ _)⟩)
  dsimp only [Pt.U, Pt.locs, Pt.cells, Pt.slots] at X3 l3 y3 z3 st3 hQ3
  subst l3 y3 z3
  obtain ⟨rfl, Nq3, K3, o3_0⟩ := hQ3
  have N3 := Fr.app N2 Nq3
  have KK3 : Keep h0 T3.heap [] := KK1.trans K3 (fun x hx => (List.mem_cons.mp hx).elim (fun q => q ▸ (Or.inr sz_b137)) (fun hx => nomatch hx))
  have u4 : E_1 Z T3.heap b137 := Exa.keep A1 K3
  obtain ⟨fs, hr, hrun, hended, hW, hsame⟩ := X3.leave (v := (some (.ref b137))) (fun h => by rw [Bd.returns] at h; cases h)
  refine ⟨_, _, castTop (ef4_R m a_QUOTA_EXCEEDED) ?_, hrun, hended, _, _, rfl, ?_, ⟨_, rfl⟩, hW, hsame.mono (by decide) (by decide)⟩
  · show Steps p.tables e below (s₁.setTop (mkF m 0 #[.val (.ref a_QUOTA_EXCEEDED)] [])) _
    refine st1 _ ?_
    refine XS.dup X1.here hx rfl (hb hby d4_3) rfl rfl ?_
    refine XS.aloadN X1.here hx rfl (hb hby d4_4) rfl rfl ?_
    show Steps p.tables e below (T1.setTop (mkF m 5 #[.val (.ref a_QUOTA_EXCEEDED)] [(.ref a_QUOTA_EXCEEDED), (.ref b137), (.ref b137)])) _
    refine st2 _ ?_
    show Steps p.tables e below (T2.setTop (mkF m 8 #[.val (.ref a_QUOTA_EXCEEDED)] [(.ref a_QUOTA_EXCEEDED), (.ref b137), (.ref b137)])) _
    refine st3.trans ?_
    show Steps p.tables e below (T3.setTop (mkF m 11 #[.val (.ref a_QUOTA_EXCEEDED)] [(.ref b137)])) _
    jvm_step X3.here [X3.here.top, hx, (hb hby d4_11), X3.method', Bd.returns, Value.isRef, FieldType.isReference]
    first | (intro acts; rw [hr _ acts rfl rfl rfl]) | rw [hr _ _ rfl rfl rfl]
    exact Steps.refl _
  · show Q4_142 Z a_QUOTA_EXCEEDED h0 n0 _ T3.heap _
    exact ⟨b137, rfl, N3, KK3, sz_b137, u4, o3_0⟩
def Q2_145 (Z : State) (p0 : Int32) (a_EMPTY : Addr) (a_QUOTA_EXCEEDED : Addr) (h0 : Heap) (n0 : Nat) (v : Option Value) (h : Heap) (L : List Loc) : Prop := ∃ (b136 : Addr) (b143 : Addr), v = (some (.ref b136)) ∧ Fr n0 L ∧ Keep h0 h [] ∧ h0.size ≤ b136 ∧ h0.size ≤ b143 ∧ E_2 Z h b136 ∧ F_1 Z h b136 (.int p0) ∧ F_2 Z h b136 (.ref a_EMPTY) ∧ F_3 Z h b136 (.ref b143) ∧ E_1 Z h b143 ∧ F_0 Z h b143 (.ref a_QUOTA_EXCEEDED) ∧ b136 ≠ b143
set_option maxRecDepth 65536 in
set_option maxHeartbeats 40000000 in
theorem rm2_144 (l : Launch) (Z : State) (a0 : Array Value) (hw : ∀ d ∈ tables_1, d.before a0 Z = true) (ws : List Jvm.Cond) (p0 : Int32) (a_QUOTA_EXCEEDED : Addr) (a_EMPTY : Addr) (h0 : Heap) (n0 : Nat) (Z0 : n0 ≤ h0.size) (f1 : S_8 Z h0 (.ref a_EMPTY)) :
    MetFree l M_7 (head1 (Jvm.Cond.code M_7 prog_3_method_3_code 2 (some (.object "com/example/corestone/corestone/BulkRequest$Line")) :: ws) R_3_2_4_42) (fun a U => a = #[(.int p0), (.ref a_QUOTA_EXCEEDED)] ∧ Z.Warmed39 U.vm ∧ U.heap = h0) (fun _ _ _ _ _ => True) (fun _ U o U' => ∃ v L, o = .returned v ∧ Q2_145 Z p0 a_EMPTY a_QUOTA_EXCEEDED h0 n0 v U'.heap L ∧ FrameEnd U o U' L R_3_2_4_42.cells R_3_2_4_42.slots) := by
  refine MetFree.of_bodySF (plainFor_of_name pn_com_example_corestone_corestone_BulkRequest_Line) hisR ?_
  intro p e s m args below meth c s₁ Bd hml0 hP hK
  obtain ⟨rfl, hZ, hh⟩ := hP
  have hx := Bd.exec
  have hby := Bd.bytes
  have hml : c.maxLocals = 2 := hml0
  have hown : s.vm.findClass "com/example/corestone/corestone/BulkRequest$Line" = some m.cls := findClass_of_methodNamed Bd.named
  have hnm := (name_of_methodNamed Bd.named Bd.method).1
  have X0 : Stand p l e R_3_2_4_42 s m #[(.int p0), (.ref a_QUOTA_EXCEEDED)] below meth c s₁ [] 0 0 := Stand.of_body Bd
  have e0 : s₁.heap = h0 := by rw [← hh, Bd.state]; rfl
  have N0 := Fr.nil n0
  obtain ⟨T1, h1, X1, e1, E1, A1, D1, -, st1⟩ := newO X0 hx hZ hown (tw_11 hw) (tw_12 hw) (tw_9 hw) e0 (g := (mkF m 0 #[.val (.int p0), .val (.ref a_QUOTA_EXCEEDED)] [])) rfl (hb hby d2_0) (by decide) (by decide)
  obtain ⟨b136, g1⟩ : ∃ z, z = h0.size := ⟨_, rfl⟩
  rw [← g1] at A1 D1 st1
  have sz_b136 : h0.size ≤ b136 := Nat.le_trans (Nat.le_refl _) (Nat.le_of_eq g1.symm)
  have g_b136 : n0 ≤ b136 := Nat.le_trans Z0 sz_b136
  have KK1 : Keep h0 h1 [] := (Keep.refl h0 []).ext E1
  have F1_46 : F_1 Z h1 b136 (.int 0) := D1 (Or.inr (tw_46 hw)) (ty := .int) (by decide)
  have F1_48 : F_2 Z h1 b136 .null := D1 (Or.inr (tw_48 hw)) (ty := (.object "java/util/Optional")) (by decide)
  have F1_50 : F_3 Z h1 b136 .null := D1 (Or.inr (tw_50 hw)) (ty := (.object "java/util/Optional")) (by decide)
  -- pc 5: java/util/Optional.empty
  have u2 : S_8 Z h1 (.ref a_EMPTY) := Sta.ext E1 f1
  obtain ⟨_, _, ⟨T3, L3, k3, n3⟩, -, X3, ⟨Lc3, hQ3, l3, y3, z3⟩, st3⟩ := Jvm.LawKit.callS X1 hx (y := M_1) hown (mvT hZ (tw_13 hw)) (mvT hZ (tw_14 hw)) (mvT hZ (tw_15 hw)) (mvT hZ (tw_16 hw)) (by decide) (backOf (W := 3) (rm3_17 l Z a0 hw [] a_EMPTY h1 n0 (Nat.le_trans Z0 KK1.1) u2) hZ (tw_16 hw) (tw_15 hw) (by decide) (by decide)) (g := (mkF m 5 #[.val (.int p0), .val (.ref a_QUOTA_EXCEEDED)] [(.int p0), (.ref b136), (.ref b136)])) rfl (by rw [hml]; rfl) (argsL := []) (rest := [(.int p0), (.ref b136), (.ref b136)]) (lenOf pd_1 rfl) rfl (by show 2 * 0 + _ ≤ _; exact Nat.le_of_eq rfl) (hb hby d2_5) (fun _ _ => ⟨rfl, e1, (by decide : 1 + 0 ≤ _), (by decide : 3 + 0 ≤ _)⟩)
  dsimp only [Pt.U, Pt.locs, Pt.cells, Pt.slots] at X3 l3 y3 z3 st3 hQ3
  subst l3 y3 z3
  obtain ⟨rfl, Nq3, e3⟩ := hQ3
  have N3 := Fr.app N0 Nq3
  -- pc 9: java/util/Optional.of
  obtain ⟨_, _, ⟨T4, L4, k4, n4⟩, -, X4, ⟨Lc4, hQ4, l4, y4, z4⟩, st4⟩ := Jvm.LawKit.callS X3 hx (y := M_4) hown (mvT hZ (tw_18 hw)) (mvT hZ (tw_19 hw)) (mvT hZ (tw_15 hw)) (mvT hZ (tw_20 hw)) (by decide) (backOf (W := 4) (rm4_141 l Z a0 hw [] a_QUOTA_EXCEEDED h1 n0 (Nat.le_trans Z0 KK1.1) ) hZ (tw_20 hw) (tw_15 hw) (by decide) (by decide)) (g := (mkF m 9 #[.val (.int p0), .val (.ref a_QUOTA_EXCEEDED)] [(.ref a_QUOTA_EXCEEDED), (.ref a_EMPTY), (.int p0), (.ref b136), (.ref b136)])) rfl (by rw [hml]; rfl) (argsL := [(.ref a_QUOTA_EXCEEDED)]) (rest := [(.ref a_EMPTY), (.int p0), (.ref b136), (.ref b136)]) (lenOf pd_4 rfl) rfl (by show 2 * 0 + _ ≤ _; exact Nat.le_of_eq rfl) (hb hby d2_9) (fun _ _ => ⟨rfl, e3, (by decide : 1 + 1 ≤ _), (by decide : 3 + 1 ≤ _)⟩)
  dsimp only [Pt.U, Pt.locs, Pt.cells, Pt.slots] at X4 l4 y4 z4 st4 hQ4
  subst l4 y4 z4
  obtain ⟨b143, rfl, Nq4, K4, le_b143, o4_0, o4_1⟩ := hQ4
  have N4 := Fr.app N3 Nq4
  have sz_b143 : h0.size ≤ b143 := Nat.le_trans KK1.1 le_b143
  have g_b143 : n0 ≤ b143 := Nat.le_trans Z0 sz_b143
  have KK4 : Keep h0 T4.heap [] := KK1.trans K4 (fun x hx => nomatch hx)
  -- pc 12: com/example/corestone/corestone/BulkRequest$Line.<init>
  have u5 : F_1 Z T4.heap b136 (.int 0) := Fld.keep F1_46 K4 List.not_mem_nil
  have u6 : E_2 Z T4.heap b136 := Exa.keep A1 K4
  have u7 : F_2 Z T4.heap b136 .null := Fld.keep F1_48 K4 List.not_mem_nil
  have u8 : F_3 Z T4.heap b136 .null := Fld.keep F1_50 K4 List.not_mem_nil
  obtain ⟨_, _, ⟨T9, L9, k9, n9⟩, -, X9, ⟨Lc9, hQ9, l9, y9, z9⟩, st9⟩ := X4.specialBack hx (y := M_6) rfl hown (mvT hZ (tw_36 hw)) (mvT hZ (tw_37 hw)) (mvT hZ (tw_38 hw)) (by decide) (backOf (W := 1) (rm8_26 l Z a0 hw [] b136 p0 a_EMPTY b143 T4.heap n0 (Nat.le_trans Z0 KK4.1) u5 u6 g_b136 u7 u8) hZ (tw_38 hw) (tw_9 hw) (by decide) (by decide)) (g := (mkF m 12 #[.val (.int p0), .val (.ref a_QUOTA_EXCEEDED)] [(.ref b143), (.ref a_EMPTY), (.int p0), (.ref b136), (.ref b136)])) rfl (by rw [hml]; rfl) (Steps.refl _) (a := b136) (argsL := [(.int p0), (.ref a_EMPTY), (.ref b143)]) (rest := [(.ref b136)]) (lenOf pd_6 rfl) rfl (by show 2 * 0 + _ ≤ _; exact Nat.le_of_eq rfl) (hb hby d2_12) (fun _ _ => ⟨rfl, rfl, (by decide : 2 + 0 ≤ _), (by decide : 4 + 0 ≤ _)⟩)
  dsimp only [Pt.U, Pt.locs, Pt.cells, Pt.slots] at X9 l9 y9 z9 st9 hQ9
  subst l9 y9 z9
  obtain ⟨rfl, Nq9, K9, o9_0, o9_1, o9_2⟩ := hQ9
  have N9 := Fr.app N4 Nq9
  have KK9 : Keep h0 T9.heap [] := KK4.trans K9 (fun x hx => (List.mem_cons.mp hx).elim (fun q => q ▸ (Or.inr sz_b136)) (fun hx => nomatch hx))
  have u10 : E_2 Z T9.heap b136 := Exa.keep u6 K9
  have u11 : E_1 Z T9.heap b143 := Exa.keep o4_0 K9
  have ne12 : b136 ≠ b143 := Nat.ne_of_lt (Nat.lt_of_lt_of_le (Exa.lt A1) le_b143)
  have u13 : F_0 Z T9.heap b143 (.ref a_QUOTA_EXCEEDED) := Fld.keep o4_1 K9 (own_notin (Ne.symm ne12) List.not_mem_nil)
  obtain ⟨fs, hr, hrun, hended, hW, hsame⟩ := X9.leave (v := (some (.ref b136))) (fun h => by rw [Bd.returns] at h; cases h)
  refine ⟨_, _, castTop (ef2_IR m p0 a_QUOTA_EXCEEDED) ?_, hrun, hended, _, _, rfl, ?_, ⟨_, rfl⟩, hW, hsame.mono (by decide) (by decide)⟩
  · show Steps p.tables e below (s₁.setTop (mkF m 0 #[.val (.int p0), .val (.ref a_QUOTA_EXCEEDED)] [])) _
    refine st1 _ ?_
    refine XS.dup X1.here hx rfl (hb hby d2_3) rfl rfl ?_
    refine XS.iloadN X1.here hx rfl (hb hby d2_4) rfl ?_
    show Steps p.tables e below (T1.setTop (mkF m 5 #[.val (.int p0), .val (.ref a_QUOTA_EXCEEDED)] [(.int p0), (.ref b136), (.ref b136)])) _
    refine st3 _ ?_
    refine XS.aloadN X3.here hx rfl (hb hby d2_8) rfl rfl ?_
    show Steps p.tables e below (T3.setTop (mkF m 9 #[.val (.int p0), .val (.ref a_QUOTA_EXCEEDED)] [(.ref a_QUOTA_EXCEEDED), (.ref a_EMPTY), (.int p0), (.ref b136), (.ref b136)])) _
    refine st4 _ ?_
    show Steps p.tables e below (T4.setTop (mkF m 12 #[.val (.int p0), .val (.ref a_QUOTA_EXCEEDED)] [(.ref b143), (.ref a_EMPTY), (.int p0), (.ref b136), (.ref b136)])) _
    refine st9.trans ?_
    show Steps p.tables e below (T9.setTop (mkF m 15 #[.val (.int p0), .val (.ref a_QUOTA_EXCEEDED)] [(.ref b136)])) _
    jvm_step X9.here [X9.here.top, hx, (hb hby d2_15), X9.method', Bd.returns, Value.isRef, FieldType.isReference]
    first | (intro acts; rw [hr _ acts rfl rfl rfl]) | rw [hr _ _ rfl rfl rfl]
    exact Steps.refl _
  · show Q2_145 Z p0 a_EMPTY a_QUOTA_EXCEEDED h0 n0 _ T9.heap _
    exact ⟨b136, b143, rfl, N9, KK9, sz_b136, sz_b143, u10, o9_0, o9_1, o9_2, u11, u13, ne12⟩
set_option maxRecDepth 65536 in
set_option maxHeartbeats 40000000 in
theorem rm12_148 (l : Launch) (Z : State) (a0 : Array Value) (hw : ∀ d ∈ tables_1, d.before a0 Z = true) (ws : List Jvm.Cond) (c0_a : Addr) (a_QUOTA_EXCEEDED : Addr) (h0 : Heap) (n0 : Nat) (Z0 : n0 ≤ h0.size) (f1 : F_0 Z h0 c0_a (.ref a_QUOTA_EXCEEDED)) :
    MetFree l M_10 (head1 (Jvm.Cond.code M_10 jdk_32_method_6_code 1 (some .boolean) :: ws) R_0_0_0_0) (fun a U => a = #[(.ref c0_a)] ∧ Z.Warmed39 U.vm ∧ U.heap = h0) (fun _ _ _ _ _ => True) (fun _ U o U' => ∃ v L, o = .returned v ∧ QP (some (.int 1)) h0 n0 v U'.heap L ∧ FrameEnd U o U' L R_0_0_0_0.cells R_0_0_0_0.slots) := by
  refine MetFree.of_bodySF (plainFor_of_name pn_java_util_Optional) hisR ?_
  intro p e s m args below meth c s₁ Bd hml0 hP hK
  obtain ⟨rfl, hZ, hh⟩ := hP
  have hx := Bd.exec
  have hby := Bd.bytes
  have hml : c.maxLocals = 1 := hml0
  have hown : s.vm.findClass "java/util/Optional" = some m.cls := findClass_of_methodNamed Bd.named
  have hnm := (name_of_methodNamed Bd.named Bd.method).1
  have X0 : Stand p l e R_0_0_0_0 s m #[(.ref c0_a)] below meth c s₁ [] 0 0 := Stand.of_body Bd
  have e0 : s₁.heap = h0 := by rw [← hh, Bd.state]; rfl
  have N0 := Fr.nil n0
  obtain ⟨T1, X1, e1, st1⟩ := getF X0 hx hZ hown (host := "") (Or.inl (tw_34 hw)) Via.refl e0 f1 (g := (mkF m 1 #[.val (.ref c0_a)] [(.ref c0_a)])) rfl rfl (hb hby d12_1)
  obtain ⟨fs, hr, hrun, hended, hW, hsame⟩ := X1.leave (v := (some (.int 1))) (fun h => by rw [Bd.returns] at h; cases h)
  refine ⟨_, _, castTop (ef12_R m c0_a) ?_, hrun, hended, _, _, rfl, ?_, ⟨_, rfl⟩, hW, hsame.mono (by decide) (by decide)⟩
  · show Steps p.tables e below (s₁.setTop (mkF m 0 #[.val (.ref c0_a)] [])) _
    refine XS.aloadN X0.here hx rfl (hb hby d12_0) rfl rfl ?_
    show Steps p.tables e below (s₁.setTop (mkF m 1 #[.val (.ref c0_a)] [(.ref c0_a)])) _
    refine st1 _ ?_
    refine XS.ifnullNo X1.here hx rfl (hb hby d12_4) rfl ?_
    refine XS.iconst X1.here hx rfl (hb hby d12_7) ?_
    refine XS.goto X1.here hx rfl (pc0 := 8) (pc' := 12) rfl (hb hby d12_8) (by decide) (by decide) ?_
    show Steps p.tables e below (T1.setTop (mkF m 12 #[.val (.ref c0_a)] [(.int 1)])) _
    exact retN X1 hx (t := .boolean) Bd.returns (by simp) (hb hby d12_12) hr
  · show QP (some (.int 1)) h0 n0 _ T1.heap _
    rw [e1]
    exact ⟨rfl, N0, rfl⟩
set_option maxRecDepth 65536 in
set_option maxHeartbeats 40000000 in
theorem rm14_149 (l : Launch) (Z : State) (a0 : Array Value) (hw : ∀ d ∈ tables_1, d.before a0 Z = true) (ws : List Jvm.Cond) (c0_a : Addr) (a_QUOTA_EXCEEDED : Addr) (h0 : Heap) (n0 : Nat) (Z0 : n0 ≤ h0.size) (f1 : F_0 Z h0 c0_a (.ref a_QUOTA_EXCEEDED)) :
    MetFree l M_12 (head1 (Jvm.Cond.code M_12 jdk_32_method_5_code 1 (some (.object "java/lang/Object")) :: ws) R_0_0_0_0) (fun a U => a = #[(.ref c0_a)] ∧ Z.Warmed39 U.vm ∧ U.heap = h0) (fun _ _ _ _ _ => True) (fun _ U o U' => ∃ v L, o = .returned v ∧ QP (some (.ref a_QUOTA_EXCEEDED)) h0 n0 v U'.heap L ∧ FrameEnd U o U' L R_0_0_0_0.cells R_0_0_0_0.slots) := by
  refine MetFree.of_bodySF (plainFor_of_name pn_java_util_Optional) hisR ?_
  intro p e s m args below meth c s₁ Bd hml0 hP hK
  obtain ⟨rfl, hZ, hh⟩ := hP
  have hx := Bd.exec
  have hby := Bd.bytes
  have hml : c.maxLocals = 1 := hml0
  have hown : s.vm.findClass "java/util/Optional" = some m.cls := findClass_of_methodNamed Bd.named
  have hnm := (name_of_methodNamed Bd.named Bd.method).1
  have X0 : Stand p l e R_0_0_0_0 s m #[(.ref c0_a)] below meth c s₁ [] 0 0 := Stand.of_body Bd
  have e0 : s₁.heap = h0 := by rw [← hh, Bd.state]; rfl
  have N0 := Fr.nil n0
  obtain ⟨T1, X1, e1, st1⟩ := getF X0 hx hZ hown (host := "") (Or.inl (tw_34 hw)) Via.refl e0 f1 (g := (mkF m 1 #[.val (.ref c0_a)] [(.ref c0_a)])) rfl rfl (hb hby d14_1)
  obtain ⟨T2, X2, e2, st2⟩ := getF X1 hx hZ hown (host := "") (Or.inl (tw_34 hw)) Via.refl e1 f1 (g := (mkF m 18 #[.val (.ref c0_a)] [(.ref c0_a)])) rfl rfl (hb hby d14_18)
  obtain ⟨fs, hr, hrun, hended, hW, hsame⟩ := X2.leave (v := (some (.ref a_QUOTA_EXCEEDED))) (fun h => by rw [Bd.returns] at h; cases h)
  refine ⟨_, _, castTop (ef14_R m c0_a) ?_, hrun, hended, _, _, rfl, ?_, ⟨_, rfl⟩, hW, hsame.mono (by decide) (by decide)⟩
  · show Steps p.tables e below (s₁.setTop (mkF m 0 #[.val (.ref c0_a)] [])) _
    refine XS.aloadN X0.here hx rfl (hb hby d14_0) rfl rfl ?_
    show Steps p.tables e below (s₁.setTop (mkF m 1 #[.val (.ref c0_a)] [(.ref c0_a)])) _
    refine st1 _ ?_
    refine XS.ifnonnullYes X1.here hx rfl (pc0 := 4) (pc' := 17) rfl (hb hby d14_4) rfl (by decide) (by decide) ?_
    refine XS.aloadN X1.here hx rfl (hb hby d14_17) rfl rfl ?_
    show Steps p.tables e below (T1.setTop (mkF m 18 #[.val (.ref c0_a)] [(.ref c0_a)])) _
    refine st2 _ ?_
    show Steps p.tables e below (T2.setTop (mkF m 21 #[.val (.ref c0_a)] [(.ref a_QUOTA_EXCEEDED)])) _
    jvm_step X2.here [X2.here.top, hx, (hb hby d14_21), X2.method', Bd.returns, Value.isRef, FieldType.isReference]
    first | (intro acts; rw [hr _ acts rfl rfl rfl]) | rw [hr _ _ rfl rfl rfl]
    exact Steps.refl _
  · show QP (some (.ref a_QUOTA_EXCEEDED)) h0 n0 _ T2.heap _
    rw [e2]
    exact ⟨rfl, N0, rfl⟩
set_option maxRecDepth 65536 in
set_option maxHeartbeats 40000000 in
theorem rm0_150 (l : Launch) (Z : State) (a0 : Array Value) (hw : ∀ d ∈ tables_1, d.before a0 Z = true) (ws : List Jvm.Cond) (p0 : Int32) (p1 : Int32) (a_QUOTA_EXCEEDED : Addr) (a_EMPTY : Addr) (h0 : Heap) (n0 : Nat) (Z0 : n0 ≤ h0.size) (f1 : (p1 &&& (7 : Int32)) = (7 : Int32)) (f2 : S_5 Z h0 (.ref a_QUOTA_EXCEEDED)) (f3 : S_8 Z h0 (.ref a_EMPTY)) (f4 : F_0 Z h0 a_EMPTY .null) (f5 : E_1 Z h0 a_EMPTY) :
    MetFree l x (head1 (Jvm.Cond.code x code maxLocals ret :: ws) room_1) (fun a U => a = #[(.int p0), (.int p1)] ∧ Z.Warmed39 U.vm ∧ U.heap = h0) (fun _ _ _ _ _ => True) (fun _ U o U' => ∃ v L, o = .returned v ∧ QT n0 v U'.heap L ∧ FrameEnd U o U' L room_1.cells room_1.slots) := by
  refine MetFree.of_bodySF (plainFor_of_name pn_com_example_corestone_corestone_LineRefusedPinLaw) hisR ?_
  intro p e s m args below meth c s₁ Bd hml0 hP hK
  obtain ⟨rfl, hZ, hh⟩ := hP
  have hx := Bd.exec
  have hby := Bd.bytes
  have hml : c.maxLocals = 4 := hml0
  have hown : s.vm.findClass "com/example/corestone/corestone/LineRefusedPinLaw" = some m.cls := findClass_of_methodNamed Bd.named
  have hnm := (name_of_methodNamed Bd.named Bd.method).1
  have X0 : Stand p l e room_1 s m #[(.int p0), (.int p1)] below meth c s₁ [] 0 0 := Stand.of_body Bd
  have e0 : s₁.heap = h0 := by rw [← hh, Bd.state]; rfl
  have N0 := Fr.nil n0
  -- pc 1: com/example/corestone/corestone/LineRefusedPinLaw.pick
  obtain ⟨_, _, ⟨T1, L1, k1, n1⟩, -, X1, ⟨Lc1, hQ1, l1, y1, z1⟩, st1⟩ := Jvm.LawKit.callS X0 hx (y := M_0) hown (mvT hZ (tw_0 hw)) (mvT hZ (tw_1 hw)) (mvT hZ (tw_2 hw)) (mvT hZ (tw_3 hw)) (by decide) (backOf (W := 0) (rm1_135 l Z a0 hw [] p1 a_QUOTA_EXCEEDED h0 n0 Z0 f1 f2) hZ (tw_3 hw) (tw_2 hw) (by decide) (by decide)) (g := (mkF m 1 #[.val (.int p0), .val (.int p1), .unset, .unset] [(.int p1)])) rfl (by rw [hml]; rfl) (argsL := [(.int p1)]) (rest := []) (lenOf pd_0 rfl) rfl (by show 2 * 0 + _ ≤ _; exact Nat.le_of_eq rfl) (hb hby at_1) (fun _ _ => ⟨rfl, e0, (by decide : 0 + 0 ≤ _), (by decide : 0 + 0 ≤ _)⟩)
  dsimp only [Pt.U, Pt.locs, Pt.cells, Pt.slots] at X1 l1 y1 z1 st1 hQ1
  subst l1 y1 z1
  obtain ⟨rfl, Nq1, e1⟩ := hQ1
  have N1 := Fr.app N0 Nq1
  -- pc 7: com/example/corestone/corestone/BulkRequest$Line.refused
  obtain ⟨_, _, ⟨T2, L2, k2, n2⟩, -, X2, ⟨Lc2, hQ2, l2, y2, z2⟩, st2⟩ := Jvm.LawKit.callS X1 hx (y := M_7) hown (mvT hZ (tw_7 hw)) (mvT hZ (tw_8 hw)) (mvT hZ (tw_9 hw)) (mvT hZ (tw_10 hw)) (by decide) (backOf (W := 0) (rm2_144 l Z a0 hw [] p0 a_QUOTA_EXCEEDED a_EMPTY h0 n0 Z0 f3) hZ (tw_10 hw) (tw_9 hw) (by decide) (by decide)) (g := (mkF m 7 #[.val (.int p0), .val (.int p1), .val (.ref a_QUOTA_EXCEEDED), .unset] [(.ref a_QUOTA_EXCEEDED), (.int p0)])) rfl (by rw [hml]; rfl) (argsL := [(.int p0), (.ref a_QUOTA_EXCEEDED)]) (rest := []) (lenOf pd_7 rfl) rfl (by show 2 * 0 + _ ≤ _; exact Nat.le_of_eq rfl) (hb hby at_7) (fun _ _ => ⟨rfl, e1, (by decide : 0 + 2 ≤ _), (by decide : 0 + 4 ≤ _)⟩)
  dsimp only [Pt.U, Pt.locs, Pt.cells, Pt.slots] at X2 l2 y2 z2 st2 hQ2
  subst l2 y2 z2
  obtain ⟨b146, b147, rfl, Nq2, K2, le_b146, le_b147, o2_0, o2_1, o2_2, o2_3, o2_4, o2_5, o2_6⟩ := hQ2
  have N2 := Fr.app N1 Nq2
  have sz_b146 : h0.size ≤ b146 := Nat.le_trans (Nat.le_refl _) le_b146
  have g_b146 : n0 ≤ b146 := Nat.le_trans Z0 sz_b146
  have sz_b147 : h0.size ≤ b147 := Nat.le_trans (Nat.le_refl _) le_b147
  have g_b147 : n0 ≤ b147 := Nat.le_trans Z0 sz_b147
  have KK2 : Keep h0 T2.heap [] := (Keep.refl h0 []).trans K2 (fun x hx => nomatch hx)
  -- pc 18: com/example/corestone/corestone/BulkRequest$Line.number
  obtain ⟨cq3, kq3, q3a, q3b, q3c⟩ := isOf hZ rfl o2_0
  obtain ⟨_, _, ⟨T3, L3, k3, n3⟩, -, X3, ⟨Lc3, hQ3, l3, y3, z3⟩, st3⟩ := X2.virtualBack hx (y := M_8) (z := M_8) hown (mvT hZ (tw_51 hw)) (mvT hZ (tw_52 hw)) (notFace_of_selects (args := #[]) (mvT hZ (tw_54 hw))) (mvT hZ (tw_54 hw)) (mvT hZ (tw_53 hw)) (by decide) (backOf (W := 0) (rm10_32 l Z a0 hw [] b146 p0 T2.heap n0 (Nat.le_trans Z0 KK2.1) o2_1) hZ (tw_55 hw) (tw_9 hw) (by decide) (by decide)) q3a q3c (g := (mkF m 18 #[.val (.int p0), .val (.int p1), .val (.ref a_QUOTA_EXCEEDED), .val (.ref b146)] [(.ref b146)])) rfl (by rw [hml]; rfl) (Steps.refl _) (argsL := []) (rest := []) (lenOf pd_8 rfl) rfl (by show 2 * 0 + _ ≤ _; exact Nat.le_of_eq rfl) (hb hby at_18) (fun _ _ => ⟨rfl, rfl, (by decide : 2 + 0 ≤ _), (by decide : 4 + 0 ≤ _)⟩)
  dsimp only [Pt.U, Pt.locs, Pt.cells, Pt.slots] at X3 l3 y3 z3 st3 hQ3
  subst l3 y3 z3
  obtain ⟨rfl, Nq3, e3⟩ := hQ3
  have N3 := Fr.app N2 Nq3
  -- pc 28: com/example/corestone/corestone/BulkRequest$Line.handle
  obtain ⟨cq4, kq4, q4a, q4b, q4c⟩ := isOf hZ e3 o2_0
  obtain ⟨_, _, ⟨T4, L4, k4, n4⟩, -, X4, ⟨Lc4, hQ4, l4, y4, z4⟩, st4⟩ := X3.virtualBack hx (y := M_9) (z := M_9) hown (mvT hZ (tw_56 hw)) (mvT hZ (tw_57 hw)) (notFace_of_selects (args := #[]) (mvT hZ (tw_59 hw))) (mvT hZ (tw_59 hw)) (mvT hZ (tw_58 hw)) (by decide) (backOf (W := 0) (rm11_33 l Z a0 hw [] b146 a_EMPTY T2.heap n0 (Nat.le_trans Z0 KK2.1) o2_2) hZ (tw_60 hw) (tw_9 hw) (by decide) (by decide)) q4a q4c (g := (mkF m 28 #[.val (.int p0), .val (.int p1), .val (.ref a_QUOTA_EXCEEDED), .val (.ref b146)] [(.ref b146)])) rfl (by rw [hml]; rfl) (Steps.refl _) (argsL := []) (rest := []) (lenOf pd_1 rfl) rfl (by show 2 * 0 + _ ≤ _; exact Nat.le_of_eq rfl) (hb hby at_28) (fun _ _ => ⟨rfl, e3, (by decide : 2 + 0 ≤ _), (by decide : 4 + 0 ≤ _)⟩)
  dsimp only [Pt.U, Pt.locs, Pt.cells, Pt.slots] at X4 l4 y4 z4 st4 hQ4
  subst l4 y4 z4
  obtain ⟨rfl, Nq4, e4⟩ := hQ4
  have N4 := Fr.app N3 Nq4
  -- pc 35: com/example/corestone/corestone/BulkRequest$Line.handle
  obtain ⟨cq5, kq5, q5a, q5b, q5c⟩ := isOf hZ e4 o2_0
  obtain ⟨_, _, ⟨T5, L5, k5, n5⟩, -, X5, ⟨Lc5, hQ5, l5, y5, z5⟩, st5⟩ := X4.virtualBack hx (y := M_9) (z := M_9) hown (mvT hZ (tw_56 hw)) (mvT hZ (tw_57 hw)) (notFace_of_selects (args := #[]) (mvT hZ (tw_59 hw))) (mvT hZ (tw_59 hw)) (mvT hZ (tw_58 hw)) (by decide) (backOf (W := 0) (rm11_33 l Z a0 hw [] b146 a_EMPTY T2.heap n0 (Nat.le_trans Z0 KK2.1) o2_2) hZ (tw_60 hw) (tw_9 hw) (by decide) (by decide)) q5a q5c (g := (mkF m 35 #[.val (.int p0), .val (.int p1), .val (.ref a_QUOTA_EXCEEDED), .val (.ref b146)] [(.ref b146)])) rfl (by rw [hml]; rfl) (Steps.refl _) (argsL := []) (rest := []) (lenOf pd_1 rfl) rfl (by show 2 * 0 + _ ≤ _; exact Nat.le_of_eq rfl) (hb hby at_35) (fun _ _ => ⟨rfl, e4, (by decide : 2 + 0 ≤ _), (by decide : 4 + 0 ≤ _)⟩)
  dsimp only [Pt.U, Pt.locs, Pt.cells, Pt.slots] at X5 l5 y5 z5 st5 hQ5
  subst l5 y5 z5
  obtain ⟨rfl, Nq5, e5⟩ := hQ5
  have N5 := Fr.app N4 Nq5
  -- pc 38: java/util/Optional.isPresent
  have u6 : F_0 Z T2.heap a_EMPTY .null := Fld.keep f4 K2 List.not_mem_nil
  have u8 : E_1 Z T2.heap a_EMPTY := Exa.keep f5 K2
  obtain ⟨cq7, kq7, q7a, q7b, q7c⟩ := isOf hZ e5 u8
  obtain ⟨_, _, ⟨T7, L7, k7, n7⟩, -, X7, ⟨Lc7, hQ7, l7, y7, z7⟩, st7⟩ := X5.virtualBack hx (y := M_10) (z := M_10) hown (mvT hZ (tw_61 hw)) (mvT hZ (tw_62 hw)) (notFace_of_selects (args := #[]) (mvT hZ (tw_64 hw))) (mvT hZ (tw_64 hw)) (mvT hZ (tw_63 hw)) (by decide) (backOf (W := 0) (rm12_34 l Z a0 hw [] a_EMPTY T2.heap n0 (Nat.le_trans Z0 KK2.1) u6) hZ (tw_65 hw) (tw_15 hw) (by decide) (by decide)) q7a q7c (g := (mkF m 38 #[.val (.int p0), .val (.int p1), .val (.ref a_QUOTA_EXCEEDED), .val (.ref b146)] [(.ref a_EMPTY)])) rfl (by rw [hml]; rfl) (Steps.refl _) (argsL := []) (rest := []) (lenOf pd_9 rfl) rfl (by show 2 * 0 + _ ≤ _; exact Nat.le_of_eq rfl) (hb hby at_38) (fun _ _ => ⟨rfl, e5, (by decide : 2 + 0 ≤ _), (by decide : 4 + 0 ≤ _)⟩)
  dsimp only [Pt.U, Pt.locs, Pt.cells, Pt.slots] at X7 l7 y7 z7 st7 hQ7
  subst l7 y7 z7
  obtain ⟨rfl, Nq7, e7⟩ := hQ7
  have N7 := Fr.app N5 Nq7
  -- pc 47: com/example/corestone/corestone/BulkRequest$Line.refusal
  obtain ⟨cq9, kq9, q9a, q9b, q9c⟩ := isOf hZ e7 o2_0
  obtain ⟨_, _, ⟨T9, L9, k9, n9⟩, -, X9, ⟨Lc9, hQ9, l9, y9, z9⟩, st9⟩ := X7.virtualBack hx (y := M_11) (z := M_11) hown (mvT hZ (tw_66 hw)) (mvT hZ (tw_67 hw)) (notFace_of_selects (args := #[]) (mvT hZ (tw_69 hw))) (mvT hZ (tw_69 hw)) (mvT hZ (tw_68 hw)) (by decide) (backOf (W := 0) (rm13_35 l Z a0 hw [] b146 b147 T2.heap n0 (Nat.le_trans Z0 KK2.1) o2_3) hZ (tw_70 hw) (tw_9 hw) (by decide) (by decide)) q9a q9c (g := (mkF m 47 #[.val (.int p0), .val (.int p1), .val (.ref a_QUOTA_EXCEEDED), .val (.ref b146)] [(.ref b146)])) rfl (by rw [hml]; rfl) (Steps.refl _) (argsL := []) (rest := []) (lenOf pd_1 rfl) rfl (by show 2 * 0 + _ ≤ _; exact Nat.le_of_eq rfl) (hb hby at_47) (fun _ _ => ⟨rfl, e7, (by decide : 2 + 0 ≤ _), (by decide : 4 + 0 ≤ _)⟩)
  dsimp only [Pt.U, Pt.locs, Pt.cells, Pt.slots] at X9 l9 y9 z9 st9 hQ9
  subst l9 y9 z9
  obtain ⟨rfl, Nq9, e9⟩ := hQ9
  have N9 := Fr.app N7 Nq9
  -- pc 54: com/example/corestone/corestone/BulkRequest$Line.refusal
  obtain ⟨cq10, kq10, q10a, q10b, q10c⟩ := isOf hZ e9 o2_0
  obtain ⟨_, _, ⟨T10, L10, k10, n10⟩, -, X10, ⟨Lc10, hQ10, l10, y10, z10⟩, st10⟩ := X9.virtualBack hx (y := M_11) (z := M_11) hown (mvT hZ (tw_66 hw)) (mvT hZ (tw_67 hw)) (notFace_of_selects (args := #[]) (mvT hZ (tw_69 hw))) (mvT hZ (tw_69 hw)) (mvT hZ (tw_68 hw)) (by decide) (backOf (W := 0) (rm13_35 l Z a0 hw [] b146 b147 T2.heap n0 (Nat.le_trans Z0 KK2.1) o2_3) hZ (tw_70 hw) (tw_9 hw) (by decide) (by decide)) q10a q10c (g := (mkF m 54 #[.val (.int p0), .val (.int p1), .val (.ref a_QUOTA_EXCEEDED), .val (.ref b146)] [(.ref b146)])) rfl (by rw [hml]; rfl) (Steps.refl _) (argsL := []) (rest := []) (lenOf pd_1 rfl) rfl (by show 2 * 0 + _ ≤ _; exact Nat.le_of_eq rfl) (hb hby at_54) (fun _ _ => ⟨rfl, e9, (by decide : 2 + 0 ≤ _), (by decide : 4 + 0 ≤ _)⟩)
  dsimp only [Pt.U, Pt.locs, Pt.cells, Pt.slots] at X10 l10 y10 z10 st10 hQ10
  subst l10 y10 z10
  obtain ⟨rfl, Nq10, e10⟩ := hQ10
  have N10 := Fr.app N9 Nq10
  -- pc 57: java/util/Optional.isPresent
  obtain ⟨cq11, kq11, q11a, q11b, q11c⟩ := isOf hZ e10 o2_4
  obtain ⟨_, _, ⟨T11, L11, k11, n11⟩, -, X11, ⟨Lc11, hQ11, l11, y11, z11⟩, st11⟩ := X10.virtualBack hx (y := M_10) (z := M_10) hown (mvT hZ (tw_61 hw)) (mvT hZ (tw_62 hw)) (notFace_of_selects (args := #[]) (mvT hZ (tw_64 hw))) (mvT hZ (tw_64 hw)) (mvT hZ (tw_63 hw)) (by decide) (backOf (W := 0) (rm12_148 l Z a0 hw [] b147 a_QUOTA_EXCEEDED T2.heap n0 (Nat.le_trans Z0 KK2.1) o2_5) hZ (tw_65 hw) (tw_15 hw) (by decide) (by decide)) q11a q11c (g := (mkF m 57 #[.val (.int p0), .val (.int p1), .val (.ref a_QUOTA_EXCEEDED), .val (.ref b146)] [(.ref b147)])) rfl (by rw [hml]; rfl) (Steps.refl _) (argsL := []) (rest := []) (lenOf pd_9 rfl) rfl (by show 2 * 0 + _ ≤ _; exact Nat.le_of_eq rfl) (hb hby at_57) (fun _ _ => ⟨rfl, e10, (by decide : 2 + 0 ≤ _), (by decide : 4 + 0 ≤ _)⟩)
  dsimp only [Pt.U, Pt.locs, Pt.cells, Pt.slots] at X11 l11 y11 z11 st11 hQ11
  subst l11 y11 z11
  obtain ⟨rfl, Nq11, e11⟩ := hQ11
  have N11 := Fr.app N10 Nq11
  -- pc 66: com/example/corestone/corestone/BulkRequest$Line.refusal
  obtain ⟨cq12, kq12, q12a, q12b, q12c⟩ := isOf hZ e11 o2_0
  obtain ⟨_, _, ⟨T12, L12, k12, n12⟩, -, X12, ⟨Lc12, hQ12, l12, y12, z12⟩, st12⟩ := X11.virtualBack hx (y := M_11) (z := M_11) hown (mvT hZ (tw_66 hw)) (mvT hZ (tw_67 hw)) (notFace_of_selects (args := #[]) (mvT hZ (tw_69 hw))) (mvT hZ (tw_69 hw)) (mvT hZ (tw_68 hw)) (by decide) (backOf (W := 0) (rm13_35 l Z a0 hw [] b146 b147 T2.heap n0 (Nat.le_trans Z0 KK2.1) o2_3) hZ (tw_70 hw) (tw_9 hw) (by decide) (by decide)) q12a q12c (g := (mkF m 66 #[.val (.int p0), .val (.int p1), .val (.ref a_QUOTA_EXCEEDED), .val (.ref b146)] [(.ref b146)])) rfl (by rw [hml]; rfl) (Steps.refl _) (argsL := []) (rest := []) (lenOf pd_1 rfl) rfl (by show 2 * 0 + _ ≤ _; exact Nat.le_of_eq rfl) (hb hby at_66) (fun _ _ => ⟨rfl, e11, (by decide : 2 + 0 ≤ _), (by decide : 4 + 0 ≤ _)⟩)
  dsimp only [Pt.U, Pt.locs, Pt.cells, Pt.slots] at X12 l12 y12 z12 st12 hQ12
  subst l12 y12 z12
  obtain ⟨rfl, Nq12, e12⟩ := hQ12
  have N12 := Fr.app N11 Nq12
  -- pc 69: java/util/Optional.get
  obtain ⟨cq13, kq13, q13a, q13b, q13c⟩ := isOf hZ e12 o2_4
  obtain ⟨_, _, ⟨T13, L13, k13, n13⟩, -, X13, ⟨Lc13, hQ13, l13, y13, z13⟩, st13⟩ := X12.virtualBack hx (y := M_12) (z := M_12) hown (mvT hZ (tw_71 hw)) (mvT hZ (tw_72 hw)) (notFace_of_selects (args := #[]) (mvT hZ (tw_74 hw))) (mvT hZ (tw_74 hw)) (mvT hZ (tw_73 hw)) (by decide) (backOf (W := 0) (rm14_149 l Z a0 hw [] b147 a_QUOTA_EXCEEDED T2.heap n0 (Nat.le_trans Z0 KK2.1) o2_5) hZ (tw_75 hw) (tw_15 hw) (by decide) (by decide)) q13a q13c (g := (mkF m 69 #[.val (.int p0), .val (.int p1), .val (.ref a_QUOTA_EXCEEDED), .val (.ref b146)] [(.ref b147)])) rfl (by rw [hml]; rfl) (Steps.refl _) (argsL := []) (rest := []) (lenOf pd_10 rfl) rfl (by show 2 * 0 + _ ≤ _; exact Nat.le_of_eq rfl) (hb hby at_69) (fun _ _ => ⟨rfl, e12, (by decide : 2 + 0 ≤ _), (by decide : 4 + 0 ≤ _)⟩)
  dsimp only [Pt.U, Pt.locs, Pt.cells, Pt.slots] at X13 l13 y13 z13 st13 hQ13
  subst l13 y13 z13
  obtain ⟨rfl, Nq13, e13⟩ := hQ13
  have N13 := Fr.app N12 Nq13
  obtain ⟨fs, hr, hrun, hended, hW, hsame⟩ := X13.leave (v := (some (.int 1))) (fun h => by rw [Bd.returns] at h; cases h)
  refine ⟨_, _, castTop (ef0_II m p0 p1) ?_, hrun, hended, _, _, rfl, ?_, ⟨_, rfl⟩, hW, hsame.mono (by decide) (by decide)⟩
  · show Steps p.tables e below (s₁.setTop (mkF m 0 #[.val (.int p0), .val (.int p1), .unset, .unset] [])) _
    refine XS.iloadN X0.here hx rfl (hb hby at_0) rfl ?_
    show Steps p.tables e below (s₁.setTop (mkF m 1 #[.val (.int p0), .val (.int p1), .unset, .unset] [(.int p1)])) _
    refine st1 _ ?_
    refine XS.astoreN X1.here hx rfl (hb hby at_4) rfl rfl (l' := #[.val (.int p0), .val (.int p1), .val (.ref a_QUOTA_EXCEEDED), .unset]) rfl ?_
    refine XS.iloadN X1.here hx rfl (hb hby at_5) rfl ?_
    refine XS.aloadN X1.here hx rfl (hb hby at_6) rfl rfl ?_
    show Steps p.tables e below (T1.setTop (mkF m 7 #[.val (.int p0), .val (.int p1), .val (.ref a_QUOTA_EXCEEDED), .unset] [(.ref a_QUOTA_EXCEEDED), (.int p0)])) _
    refine st2 _ ?_
    refine XS.astoreN X2.here hx rfl (hb hby at_10) rfl rfl (l' := #[.val (.int p0), .val (.int p1), .val (.ref a_QUOTA_EXCEEDED), .val (.ref b146)]) rfl ?_
    refine XS.aloadN X2.here hx rfl (hb hby at_11) rfl rfl ?_
    refine XS.ifnonnullYes X2.here hx rfl (pc0 := 12) (pc' := 17) rfl (hb hby at_12) rfl (by decide) (by decide) ?_
    refine XS.aloadN X2.here hx rfl (hb hby at_17) rfl rfl ?_
    show Steps p.tables e below (T2.setTop (mkF m 18 #[.val (.int p0), .val (.int p1), .val (.ref a_QUOTA_EXCEEDED), .val (.ref b146)] [(.ref b146)])) _
    refine st3.trans ?_
    refine XS.iloadN X3.here hx rfl (hb hby at_21) rfl ?_
    refine XS.icmpYes X3.here hx rfl (pc0 := 22) (pc' := 27) rfl (hb hby at_22) rfl (teq (rfl : p0 = p0)).1 (by decide) (by decide) ?_
    refine XS.aloadN X3.here hx rfl (hb hby at_27) rfl rfl ?_
    show Steps p.tables e below (T3.setTop (mkF m 28 #[.val (.int p0), .val (.int p1), .val (.ref a_QUOTA_EXCEEDED), .val (.ref b146)] [(.ref b146)])) _
    refine st4.trans ?_
    refine XS.ifnullNo X4.here hx rfl (hb hby at_31) rfl ?_
    refine XS.aloadN X4.here hx rfl (hb hby at_34) rfl rfl ?_
    show Steps p.tables e below (T4.setTop (mkF m 35 #[.val (.int p0), .val (.int p1), .val (.ref a_QUOTA_EXCEEDED), .val (.ref b146)] [(.ref b146)])) _
    refine st5.trans ?_
    show Steps p.tables e below (T5.setTop (mkF m 38 #[.val (.int p0), .val (.int p1), .val (.ref a_QUOTA_EXCEEDED), .val (.ref b146)] [(.ref a_EMPTY)])) _
    refine st7.trans ?_
    refine XS.ifYes X7.here hx rfl (pc0 := 41) (pc' := 46) rfl (hb hby at_41) rfl (by decide) (by decide) (by decide) ?_
    refine XS.aloadN X7.here hx rfl (hb hby at_46) rfl rfl ?_
    show Steps p.tables e below (T7.setTop (mkF m 47 #[.val (.int p0), .val (.int p1), .val (.ref a_QUOTA_EXCEEDED), .val (.ref b146)] [(.ref b146)])) _
    refine st9.trans ?_
    refine XS.ifnullNo X9.here hx rfl (hb hby at_50) rfl ?_
    refine XS.aloadN X9.here hx rfl (hb hby at_53) rfl rfl ?_
    show Steps p.tables e below (T9.setTop (mkF m 54 #[.val (.int p0), .val (.int p1), .val (.ref a_QUOTA_EXCEEDED), .val (.ref b146)] [(.ref b146)])) _
    refine st10.trans ?_
    show Steps p.tables e below (T10.setTop (mkF m 57 #[.val (.int p0), .val (.int p1), .val (.ref a_QUOTA_EXCEEDED), .val (.ref b146)] [(.ref b147)])) _
    refine st11.trans ?_
    refine XS.ifYes X11.here hx rfl (pc0 := 60) (pc' := 65) rfl (hb hby at_60) rfl (by decide) (by decide) (by decide) ?_
    refine XS.aloadN X11.here hx rfl (hb hby at_65) rfl rfl ?_
    show Steps p.tables e below (T11.setTop (mkF m 66 #[.val (.int p0), .val (.int p1), .val (.ref a_QUOTA_EXCEEDED), .val (.ref b146)] [(.ref b146)])) _
    refine st12.trans ?_
    show Steps p.tables e below (T12.setTop (mkF m 69 #[.val (.int p0), .val (.int p1), .val (.ref a_QUOTA_EXCEEDED), .val (.ref b146)] [(.ref b147)])) _
    refine st13.trans ?_
    refine XS.aloadN X13.here hx rfl (hb hby at_72) rfl rfl ?_
    show Steps p.tables e below (T13.setTop (mkF m 73 #[.val (.int p0), .val (.int p1), .val (.ref a_QUOTA_EXCEEDED), .val (.ref b146)] [(.ref a_QUOTA_EXCEEDED), (.ref a_QUOTA_EXCEEDED)])) _
    refine Jvm.RoadKit.acmp (g := (mkF m 73 #[.val (.int p0), .val (.int p1), .val (.ref a_QUOTA_EXCEEDED), .val (.ref b146)] [(.ref a_QUOTA_EXCEEDED), (.ref a_QUOTA_EXCEEDED)])) X13 hx rfl rfl rfl (pc0 := 73) (pc' := 76) (same := true) rfl (hb hby at_73) rfl (decide_eq_true rfl) (by decide) (by decide) ?_
    refine XS.iconst X13.here hx rfl (hb hby at_76) ?_
    refine XS.goto X13.here hx rfl (pc0 := 77) (pc' := 81) rfl (hb hby at_77) (by decide) (by decide) ?_
    show Steps p.tables e below (T13.setTop (mkF m 81 #[.val (.int p0), .val (.int p1), .val (.ref a_QUOTA_EXCEEDED), .val (.ref b146)] [(.int 1)])) _
    exact retN X13 hx (t := .boolean) Bd.returns (by simp) (hb hby at_81) hr
  · show QT n0 _ T13.heap _
    rw [e13]
    exact ⟨rfl, N13⟩
set_option maxRecDepth 65536 in
set_option maxHeartbeats 40000000 in
theorem comes_1 {Post : Tables → Env → Array Value → State → Outcome → State → Prop} (hpost : ∀ tb e args s v u, (limb_1_1.after args s (.returned v) u = true ∧ limb_1_2.after args s (.returned v) u = true ∧ True) → FrameEnd s (.returned v) u (Jvm.fieldLocs frame_1_writes args s ++ Jvm.arrayLocs frame_1_arrays args s ++ Jvm.staticLocs frame_1_statics s) 16 128 → Post tb e args s (.returned v) u) :
    ArmFor flags0 classFile x code maxLocals ret World_1 tables_1 room_1 Calls_1 rest_1 Pre_1 Post := by
  intro l hfl _ _ p e ha hc hk s m args below hf hA hF happ hP
  obtain ⟨hcalls, hrest, hpre⟩ := hP
  obtain ⟨-, -, -, hnamed, -, -, -, hat⟩ := (Spec.applies_iff hf).mp happ
  obtain ⟨hg, hn⟩ := and_e (Cond.before_iff.mp (show (Jvm.Cond.and given_1 narrow_1).before args s = true from hpre))
  obtain ⟨k151, k152⟩ := and_e hg
  obtain ⟨k153, k154⟩ := and_e k152
  obtain ⟨w0, w1, rfl⟩ : ∃ w0 w1 : Value, args = #[w0, w1] := by
    have hs : args.size = 2 := by simpa [Cond.value, given_1] using k151
    obtain ⟨L⟩ := args
    match L, hs with
    | [w0, w1], _ => exact ⟨w0, w1, rfl⟩
  have hw := fun d (hd : d ∈ tables_1) => atoms_spec (ws := Jvm.Cond.code x code maxLocals ret :: tables_1) hat d (List.mem_cons_of_mem _ hd)
  have hfit : Fit s := fun {y c} hc i hi => by
    obtain ⟨ha, rfl⟩ := Array.getElem?_eq_some_iff.mp hc
    have q := List.all_eq_true.mp ((Array.all_eq_true_iff_forall_mem.mp hF) _ (Array.getElem_mem ha)) i (List.mem_range.mpr hi)
    simpa [Array.getElem?_eq_getElem hi] using q
  obtain ⟨p0, ei0⟩ := is_v k153
  obtain rfl : w0 = (.int p0) := Option.some.inj ei0
  obtain ⟨p1, ei1⟩ := is_v k154
  obtain rfl : w1 = (.int p1) := Option.some.inj ei1
  obtain ⟨hsets, hown0⟩ := atoms_of _ (rest_1_c_eq ▸ (show rest_1_c.before _ s = true from hrest))
  have hr0 := Cond.before_iff.mp hown0
  obtain ⟨g1, g2⟩ := and_e hn
  obtain ⟨g3, g4⟩ := and_e g2
  obtain ⟨g5, g6⟩ := and_e g4
  obtain ⟨g7, g8⟩ := and_e g6
  obtain ⟨g9, g10⟩ := and_e g8
  obtain ⟨g11, g12⟩ := and_e g10
  obtain ⟨g13, g14⟩ := and_e g12
  obtain ⟨a_WRONG_PREFIX, ev_a_WRONG_PREFIX⟩ := exa_v g1
  have S_a_WRONG_PREFIX : Sta s s.heap "com/example/corestone/corestone/RefusedException$Refusal" "WRONG_PREFIX" "Lcom/example/corestone/corestone/RefusedException$Refusal;" (.ref a_WRONG_PREFIX) := Sta.start ev_a_WRONG_PREFIX (Or.inr ⟨(tw_5 hw), (tw_6 hw)⟩)
  have E_a_WRONG_PREFIX : Exa s s.heap a_WRONG_PREFIX "com/example/corestone/corestone/RefusedException$Refusal" := Exa.start ev_a_WRONG_PREFIX g1
  obtain ⟨a_INVALID_IDENTIFIER, ev_a_INVALID_IDENTIFIER⟩ := exa_v g3
  have S_a_INVALID_IDENTIFIER : Sta s s.heap "com/example/corestone/corestone/RefusedException$Refusal" "INVALID_IDENTIFIER" "Lcom/example/corestone/corestone/RefusedException$Refusal;" (.ref a_INVALID_IDENTIFIER) := Sta.start ev_a_INVALID_IDENTIFIER (Or.inr ⟨(tw_5 hw), (tw_77 hw)⟩)
  have E_a_INVALID_IDENTIFIER : Exa s s.heap a_INVALID_IDENTIFIER "com/example/corestone/corestone/RefusedException$Refusal" := Exa.start ev_a_INVALID_IDENTIFIER g3
  obtain ⟨a_INVALID_URL, ev_a_INVALID_URL⟩ := exa_v g5
  have S_a_INVALID_URL : Sta s s.heap "com/example/corestone/corestone/RefusedException$Refusal" "INVALID_URL" "Lcom/example/corestone/corestone/RefusedException$Refusal;" (.ref a_INVALID_URL) := Sta.start ev_a_INVALID_URL (Or.inr ⟨(tw_5 hw), (tw_79 hw)⟩)
  have E_a_INVALID_URL : Exa s s.heap a_INVALID_URL "com/example/corestone/corestone/RefusedException$Refusal" := Exa.start ev_a_INVALID_URL g5
  obtain ⟨a_INVALID_METADATA, ev_a_INVALID_METADATA⟩ := exa_v g7
  have S_a_INVALID_METADATA : Sta s s.heap "com/example/corestone/corestone/RefusedException$Refusal" "INVALID_METADATA" "Lcom/example/corestone/corestone/RefusedException$Refusal;" (.ref a_INVALID_METADATA) := Sta.start ev_a_INVALID_METADATA (Or.inr ⟨(tw_5 hw), (tw_81 hw)⟩)
  have E_a_INVALID_METADATA : Exa s s.heap a_INVALID_METADATA "com/example/corestone/corestone/RefusedException$Refusal" := Exa.start ev_a_INVALID_METADATA g7
  obtain ⟨a_WRONG_DOMAIN, ev_a_WRONG_DOMAIN⟩ := exa_v g9
  have S_a_WRONG_DOMAIN : Sta s s.heap "com/example/corestone/corestone/RefusedException$Refusal" "WRONG_DOMAIN" "Lcom/example/corestone/corestone/RefusedException$Refusal;" (.ref a_WRONG_DOMAIN) := Sta.start ev_a_WRONG_DOMAIN (Or.inr ⟨(tw_5 hw), (tw_83 hw)⟩)
  have E_a_WRONG_DOMAIN : Exa s s.heap a_WRONG_DOMAIN "com/example/corestone/corestone/RefusedException$Refusal" := Exa.start ev_a_WRONG_DOMAIN g9
  obtain ⟨a_QUOTA_EXCEEDED, ev_a_QUOTA_EXCEEDED⟩ := exa_v g11
  have S_a_QUOTA_EXCEEDED : Sta s s.heap "com/example/corestone/corestone/RefusedException$Refusal" "QUOTA_EXCEEDED" "Lcom/example/corestone/corestone/RefusedException$Refusal;" (.ref a_QUOTA_EXCEEDED) := Sta.start ev_a_QUOTA_EXCEEDED (Or.inr ⟨(tw_5 hw), (tw_85 hw)⟩)
  have E_a_QUOTA_EXCEEDED : Exa s s.heap a_QUOTA_EXCEEDED "com/example/corestone/corestone/RefusedException$Refusal" := Exa.start ev_a_QUOTA_EXCEEDED g11
  obtain ⟨a_FORBIDDEN, ev_a_FORBIDDEN⟩ := exa_v g13
  have S_a_FORBIDDEN : Sta s s.heap "com/example/corestone/corestone/RefusedException$Refusal" "FORBIDDEN" "Lcom/example/corestone/corestone/RefusedException$Refusal;" (.ref a_FORBIDDEN) := Sta.start ev_a_FORBIDDEN (Or.inr ⟨(tw_5 hw), (tw_87 hw)⟩)
  have E_a_FORBIDDEN : Exa s s.heap a_FORBIDDEN "com/example/corestone/corestone/RefusedException$Refusal" := Exa.start ev_a_FORBIDDEN g13
  obtain ⟨a_IDENTIFIER_MISMATCH, ev_a_IDENTIFIER_MISMATCH⟩ := exa_v g14
  have S_a_IDENTIFIER_MISMATCH : Sta s s.heap "com/example/corestone/corestone/RefusedException$Refusal" "IDENTIFIER_MISMATCH" "Lcom/example/corestone/corestone/RefusedException$Refusal;" (.ref a_IDENTIFIER_MISMATCH) := Sta.start ev_a_IDENTIFIER_MISMATCH (Or.inr ⟨(tw_5 hw), (tw_89 hw)⟩)
  have E_a_IDENTIFIER_MISMATCH : Exa s s.heap a_IDENTIFIER_MISMATCH "com/example/corestone/corestone/RefusedException$Refusal" := Exa.start ev_a_IDENTIFIER_MISMATCH g14
  obtain ⟨a_EMPTY, ev_a_EMPTY⟩ := exa_v (Cond.before_iff.mp (hsets _ (List.mem_of_getElem? (i := 2) rfl)))
  have S_a_EMPTY : Sta s s.heap "java/util/Optional" "EMPTY" "Ljava/util/Optional;" (.ref a_EMPTY) := Sta.start ev_a_EMPTY (Or.inl (hsets _ (List.mem_of_getElem? (i := 1) rfl)))
  have E_a_EMPTY : Exa s s.heap a_EMPTY "java/util/Optional" := Exa.start ev_a_EMPTY (Cond.before_iff.mp (hsets _ (List.mem_of_getElem? (i := 2) rfl)))
  have F_value_a_EMPTY : Fld s s.heap a_EMPTY "java/util/Optional" "value" "Ljava/lang/Object;" .null := own_fldn ev_a_EMPTY (Cond.before_iff.mp (hsets _ (List.mem_of_getElem? (i := 3) rfl)))
  have M : MetFree l x (head1 (Jvm.Cond.code x code maxLocals ret :: tables_1) room_1) (fun a U => a = #[(.int p0), (.int p1)] ∧ s.Warmed39 U.vm ∧ U.heap = s.heap) (fun _ _ _ _ _ => True) (fun _ U o U' => ∃ v L, o = .returned v ∧ QT s.heap.size v U'.heap L ∧ FrameEnd U o U' L room_1.cells room_1.slots) := by
    rcases own_and7 p1 with hk | hk | hk | hk | hk | hk | hk | hk
    · exact rm0_38 l s _ hw tables_1 p0 p1 a_INVALID_METADATA a_EMPTY s.heap s.heap.size (Nat.le_refl _) hk S_a_INVALID_METADATA S_a_EMPTY F_value_a_EMPTY E_a_EMPTY
    · exact rm0_54 l s _ hw tables_1 p0 p1 a_INVALID_IDENTIFIER a_EMPTY s.heap s.heap.size (Nat.le_refl _) hk S_a_INVALID_IDENTIFIER S_a_EMPTY F_value_a_EMPTY E_a_EMPTY
    · exact rm0_70 l s _ hw tables_1 p0 p1 a_IDENTIFIER_MISMATCH a_EMPTY s.heap s.heap.size (Nat.le_refl _) hk S_a_IDENTIFIER_MISMATCH S_a_EMPTY F_value_a_EMPTY E_a_EMPTY
    · exact rm0_86 l s _ hw tables_1 p0 p1 a_WRONG_PREFIX a_EMPTY s.heap s.heap.size (Nat.le_refl _) hk S_a_WRONG_PREFIX S_a_EMPTY F_value_a_EMPTY E_a_EMPTY
    · exact rm0_102 l s _ hw tables_1 p0 p1 a_INVALID_URL a_EMPTY s.heap s.heap.size (Nat.le_refl _) hk S_a_INVALID_URL S_a_EMPTY F_value_a_EMPTY E_a_EMPTY
    · exact rm0_118 l s _ hw tables_1 p0 p1 a_WRONG_DOMAIN a_EMPTY s.heap s.heap.size (Nat.le_refl _) hk S_a_WRONG_DOMAIN S_a_EMPTY F_value_a_EMPTY E_a_EMPTY
    · exact rm0_134 l s _ hw tables_1 p0 p1 a_FORBIDDEN a_EMPTY s.heap s.heap.size (Nat.le_refl _) hk S_a_FORBIDDEN S_a_EMPTY F_value_a_EMPTY E_a_EMPTY
    · exact rm0_150 l s _ hw tables_1 p0 p1 a_QUOTA_EXCEEDED a_EMPTY s.heap s.heap.size (Nat.le_refl _) hk S_a_QUOTA_EXCEEDED S_a_EMPTY F_value_a_EMPTY E_a_EMPTY
  obtain ⟨n, o, h1, h2, h3, _, L, rfl, ⟨rfl, N⟩, hq⟩ := M p e ha hc hk s m _ below hf ((Spec.applies_iff_loose hf).mp happ).1 ⟨rfl, State.Warmed39.refl s, rfl⟩ trivial
  refine ⟨n, _, h1, h2, h3, hpost _ _ _ _ _ _ ⟨Cond.after_iff.mpr rfl, Cond.after_iff.mpr (eq_i res_at (Term.int_eval (1)) rfl), trivial⟩ ⟨hq.1, hq.2.1, (hq.2.2.sift fun y hy => Or.inr (N y hy)).mono (by decide) (by decide)⟩⟩
theorem main_1_1 : Claimed_1_1 := comes_1 fun _ _ _ _ _ _ h hF => ⟨h.1, hF⟩
theorem main_1_2 : Claimed_1_2 := comes_1 fun _ _ _ _ _ _ h hF => ⟨h.2.1, hF⟩
end Jvm.Pilot.@@N@@
namespace Jvm.Pilot.@@N@@
open Jvm Jvm.ClassFile Sem Op Lib Jvm.Free Jvm.Stand Jvm.Pilot.@@N@@.Jvm.D
/-! MADE BY PROGRAM (witnessworld.py) out of the Statement's table words and the real class files: 14 classes; the members and pool entries that the words name. The judged class is class 1, her method 2. -/
namespace start1
open Jvm.ClassFile
def u (s : String) : CpInfo := .utf8 (stringToUtf16 s)
/-- a pool by its gaps: so many unusable entries, then the entry; so many at the end -/
def gap : Nat → List CpInfo → List CpInfo
  | 0, r => r
  | n + 1, r => .unusable :: gap n r
def poolList (es : List (Nat × CpInfo)) (last : Nat) : List CpInfo := es.foldr (fun e r => gap e.1 (e.2 :: r)) (gap last [])
def pool (es : List (Nat × CpInfo)) (last : Nat) : Array CpInfo := ⟨poolList es last⟩
def fileOf (pool : Array CpInfo) (this : Nat) (attrs : Array Attribute := #[]) (ms : Array MethodInfo := #[]) (fl : Nat := 33) (sup : Nat := 0) (ifs : Array Nat := #[]) (fds : Array FieldInfo := #[]) : ClassFile where
  minorVersion := 0
  majorVersion := 65
  constantPool := pool
  accessFlags := fl
  thisClass := this
  superClass := sup
  interfaces := ifs
  fields := fds
  methods := ms
  attributes := attrs
def plain (name : String) (sup : Option ClassId) : Class where
  name := name
  kind := .ordinary
  loader := none
  accessFlags := 33
  super := sup
  interfaces := #[]
  cf := none
  fields := #[]
  methods := #[]
  instanceTypes := #[]
  staticTypes := #[]
  resolved := #[]
  callSites := []
  init := .initialized
  statics := none
  mirror := none

def pool0 : Array CpInfo := pool [(5, u "<init>"), (0, u "()V"), (1, .class_ 10), (1, u "java/lang/Object")] 113

def k0c0 : Code := { maxStack := 0, maxLocals := 1, code := object_method_1_code, exceptionTable := #[], attributes := #[] }
def k0m0 : Method := { name := "<init>", desc := "()V", sig := { parameters := [], returnType := none }, accessFlags := 1, code := some k0c0 }
/-- java/lang/Object -/
def k0 : Class := { plain "java/lang/Object" none with
  accessFlags := 33
  interfaces := #[]
  cf := some (fileOf pool0 8 #[] #[{ accessFlags := 1, nameIndex := 5, descriptorIndex := 6, attributes := #[] }] 33 0 #[] #[])
  fields := #[]
  methods := #[k0m0]
  instanceTypes := #[]
  staticTypes := #[]
  resolved := Array.replicate 124 none
  statics := none }

def pool1 : Array CpInfo := pool [(2, .class_ 4), (1, u "java/lang/Object"), (0, u "<init>"), (0, u "()V"), (0, .fieldref 8 9), (0, .class_ 10), (0, .nameAndType 11 12), (0, u "com/example/corestone/corestone/RefusedException$Refusal"), (0, u "INVALID_METADATA"), (0, u "Lcom/example/corestone/corestone/RefusedException$Refusal;"), (0, .fieldref 8 14), (0, .nameAndType 15 12), (0, u "INVALID_IDENTIFIER"), (0, .fieldref 8 17), (0, .nameAndType 18 12), (0, u "IDENTIFIER_MISMATCH"), (0, .fieldref 8 20), (0, .nameAndType 21 12), (0, u "WRONG_PREFIX"), (0, .fieldref 8 23), (0, .nameAndType 24 12), (0, u "INVALID_URL"), (0, .fieldref 8 26), (0, .nameAndType 27 12), (0, u "WRONG_DOMAIN"), (0, .fieldref 8 29), (0, .nameAndType 30 12), (0, u "FORBIDDEN"), (0, .fieldref 8 32), (0, .nameAndType 33 12), (0, u "QUOTA_EXCEEDED"), (0, .methodref 35 36), (0, .class_ 37), (0, .nameAndType 38 39), (0, u "com/example/corestone/corestone/LineRefusedPinLaw"), (0, u "pick"), (0, u "(I)Lcom/example/corestone/corestone/RefusedException$Refusal;"), (0, .methodref 41 42), (0, .class_ 43), (0, .nameAndType 44 45), (0, u "com/example/corestone/corestone/BulkRequest$Line"), (0, u "refused"), (0, u "(ILcom/example/corestone/corestone/RefusedException$Refusal;)Lcom/example/corestone/corestone/BulkRequest$Line;"), (0, .methodref 41 47), (0, .nameAndType 48 49), (0, u "number"), (0, u "()I"), (0, .methodref 41 51), (0, .nameAndType 52 53), (0, u "handle"), (0, u "()Ljava/util/Optional;"), (0, .methodref 55 56), (0, .class_ 57), (0, .nameAndType 58 59), (0, u "java/util/Optional"), (0, u "isPresent"), (0, u "()Z"), (0, .methodref 41 61), (0, .nameAndType 62 53), (0, u "refusal"), (0, .methodref 55 64), (0, .nameAndType 65 66), (0, u "get"), (0, u "()Ljava/lang/Object;"), (3, u "law"), (0, u "(II)Z")] 9

def k1m0 : Method := { name := "<init>", desc := "()V", sig := { parameters := [], returnType := none }, accessFlags := 2, code := none }
def k1c1 : Code := { maxStack := 2, maxLocals := 2, code := method_2_code, exceptionTable := #[], attributes := #[] }
def k1m1 : Method := { name := "pick", desc := "(I)Lcom/example/corestone/corestone/RefusedException$Refusal;", sig := { parameters := [.int], returnType := some (.object "com/example/corestone/corestone/RefusedException$Refusal") }, accessFlags := 10, code := some k1c1 }
def k1c2 : Code := { maxStack := 2, maxLocals := 4, code := code, exceptionTable := #[], attributes := #[] }
def k1m2 : Method := { name := "law", desc := "(II)Z", sig := { parameters := [.int, .int], returnType := some .boolean }, accessFlags := 9, code := some k1c2 }
/-- com/example/corestone/corestone/LineRefusedPinLaw -/
def k1 : Class := { plain "com/example/corestone/corestone/LineRefusedPinLaw" (some 0) with
  accessFlags := 49
  interfaces := #[]
  cf := some (fileOf pool1 35 #[] #[{ accessFlags := 2, nameIndex := 5, descriptorIndex := 6, attributes := #[] }, { accessFlags := 10, nameIndex := 38, descriptorIndex := 39, attributes := #[] }, { accessFlags := 9, nameIndex := 70, descriptorIndex := 71, attributes := #[] }] 49 2 #[] #[])
  fields := #[]
  methods := #[k1m0, k1m1, k1m2]
  instanceTypes := #[]
  staticTypes := #[]
  resolved := Array.replicate 81 none
  statics := none }

def pool2 : Array CpInfo := pool [(1, .class_ 2), (0, u "java/lang/constant/Constable"), (0, .class_ 4), (0, u "java/lang/Object")] 6

/-- java/lang/constant/Constable -/
def k2 : Class := { plain "java/lang/constant/Constable" (some 0) with
  accessFlags := 1537
  interfaces := #[]
  cf := some (fileOf pool2 1 #[] #[] 1537 3 #[] #[])
  fields := #[]
  methods := #[]
  instanceTypes := #[]
  staticTypes := #[]
  resolved := Array.replicate 11 none
  statics := none }

def pool3 : Array CpInfo := pool [(1, .class_ 2), (0, u "java/lang/Comparable"), (0, .class_ 4), (0, u "java/lang/Object")] 7

/-- java/lang/Comparable -/
def k3 : Class := { plain "java/lang/Comparable" (some 0) with
  accessFlags := 1537
  interfaces := #[]
  cf := some (fileOf pool3 1 #[] #[] 1537 3 #[] #[])
  fields := #[]
  methods := #[]
  instanceTypes := #[]
  staticTypes := #[]
  resolved := Array.replicate 12 none
  statics := none }

def pool4 : Array CpInfo := pool [(1, .class_ 2), (0, u "java/io/Serializable"), (0, .class_ 4), (0, u "java/lang/Object")] 2

/-- java/io/Serializable -/
def k4 : Class := { plain "java/io/Serializable" (some 0) with
  accessFlags := 1537
  interfaces := #[]
  cf := some (fileOf pool4 1 #[] #[] 1537 3 #[] #[])
  fields := #[]
  methods := #[]
  instanceTypes := #[]
  staticTypes := #[]
  resolved := Array.replicate 7 none
  statics := none }

def pool5 : Array CpInfo := pool [(2, .class_ 4), (1, u "java/lang/Enum"), (0, u "name"), (0, u "Ljava/lang/String;"), (2, u "ordinal"), (0, u "I"), (1, .class_ 14), (1, u "java/lang/Object"), (4, u "hash"), (86, .class_ 108), (1, u "java/lang/Enum$EnumDesc"), (2, .class_ 112), (0, u "java/lang/constant/Constable"), (0, .class_ 114), (0, u "java/lang/Comparable"), (0, .class_ 116), (0, u "java/io/Serializable")] 87

/-- java/lang/Enum -/
def k5 : Class := { plain "java/lang/Enum" (some 0) with
  accessFlags := 1057
  interfaces := #[2, 3, 4]
  cf := some (fileOf pool5 2 #[.nestMembers #[106]] #[] 1057 12 #[111, 113, 115] #[{ accessFlags := 18, nameIndex := 5, descriptorIndex := 6, attributes := #[] }, { accessFlags := 18, nameIndex := 9, descriptorIndex := 10, attributes := #[] }, { accessFlags := 2, nameIndex := 19, descriptorIndex := 10, attributes := #[] }])
  fields := #[{ name := "name", type := (.object "java/lang/String"), accessFlags := 18, slot := 0, constantValue := 0 }, { name := "ordinal", type := .int, accessFlags := 18, slot := 1, constantValue := 0 }, { name := "hash", type := .int, accessFlags := 2, slot := 2, constantValue := 0 }]
  methods := #[]
  instanceTypes := #[(.object "java/lang/String"), .int, .int]
  staticTypes := #[]
  resolved := Array.replicate 204 none
  statics := none }

def pool6 : Array CpInfo := pool [(1, .class_ 2), (0, u "com/example/corestone/corestone/RefusedException$Refusal"), (2, u "INVALID_METADATA"), (0, u "Lcom/example/corestone/corestone/RefusedException$Refusal;"), (2, u "INVALID_IDENTIFIER"), (2, u "IDENTIFIER_MISMATCH"), (2, u "WRONG_PREFIX"), (2, u "INVALID_URL"), (2, u "WRONG_DOMAIN"), (2, u "FORBIDDEN"), (2, u "QUOTA_EXCEEDED"), (2, u "$VALUES"), (0, u "[Lcom/example/corestone/corestone/RefusedException$Refusal;"), (6, .class_ 40), (1, u "java/lang/Enum"), (31, .class_ 73), (0, u "com/example/corestone/corestone/RefusedException")] 2

/-- com/example/corestone/corestone/RefusedException$Refusal -/
def k6 : Class := { plain "com/example/corestone/corestone/RefusedException$Refusal" (some 5) with
  accessFlags := 16432
  interfaces := #[]
  cf := some (fileOf pool6 1 #[.nestHost 72] #[] 16432 38 #[] #[{ accessFlags := 16409, nameIndex := 5, descriptorIndex := 6, attributes := #[] }, { accessFlags := 16409, nameIndex := 9, descriptorIndex := 6, attributes := #[] }, { accessFlags := 16409, nameIndex := 12, descriptorIndex := 6, attributes := #[] }, { accessFlags := 16409, nameIndex := 15, descriptorIndex := 6, attributes := #[] }, { accessFlags := 16409, nameIndex := 18, descriptorIndex := 6, attributes := #[] }, { accessFlags := 16409, nameIndex := 21, descriptorIndex := 6, attributes := #[] }, { accessFlags := 16409, nameIndex := 24, descriptorIndex := 6, attributes := #[] }, { accessFlags := 16409, nameIndex := 27, descriptorIndex := 6, attributes := #[] }, { accessFlags := 4122, nameIndex := 30, descriptorIndex := 31, attributes := #[] }])
  fields := #[{ name := "INVALID_METADATA", type := (.object "com/example/corestone/corestone/RefusedException$Refusal"), accessFlags := 16409, slot := 0, constantValue := 0 }, { name := "INVALID_IDENTIFIER", type := (.object "com/example/corestone/corestone/RefusedException$Refusal"), accessFlags := 16409, slot := 1, constantValue := 0 }, { name := "IDENTIFIER_MISMATCH", type := (.object "com/example/corestone/corestone/RefusedException$Refusal"), accessFlags := 16409, slot := 2, constantValue := 0 }, { name := "WRONG_PREFIX", type := (.object "com/example/corestone/corestone/RefusedException$Refusal"), accessFlags := 16409, slot := 3, constantValue := 0 }, { name := "INVALID_URL", type := (.object "com/example/corestone/corestone/RefusedException$Refusal"), accessFlags := 16409, slot := 4, constantValue := 0 }, { name := "WRONG_DOMAIN", type := (.object "com/example/corestone/corestone/RefusedException$Refusal"), accessFlags := 16409, slot := 5, constantValue := 0 }, { name := "FORBIDDEN", type := (.object "com/example/corestone/corestone/RefusedException$Refusal"), accessFlags := 16409, slot := 6, constantValue := 0 }, { name := "QUOTA_EXCEEDED", type := (.object "com/example/corestone/corestone/RefusedException$Refusal"), accessFlags := 16409, slot := 7, constantValue := 0 }, { name := "$VALUES", type := (.array (.object "com/example/corestone/corestone/RefusedException$Refusal")), accessFlags := 4122, slot := 8, constantValue := 0 }]
  methods := #[]
  instanceTypes := #[(.object "java/lang/String"), .int, .int]
  staticTypes := #[(.object "com/example/corestone/corestone/RefusedException$Refusal"), (.object "com/example/corestone/corestone/RefusedException$Refusal"), (.object "com/example/corestone/corestone/RefusedException$Refusal"), (.object "com/example/corestone/corestone/RefusedException$Refusal"), (.object "com/example/corestone/corestone/RefusedException$Refusal"), (.object "com/example/corestone/corestone/RefusedException$Refusal"), (.object "com/example/corestone/corestone/RefusedException$Refusal"), (.object "com/example/corestone/corestone/RefusedException$Refusal"), (.array (.object "com/example/corestone/corestone/RefusedException$Refusal"))]
  resolved := Array.replicate 76 none
  statics := some 0 }

def pool7 : Array CpInfo := pool [(1, .methodref 2 3), (0, .class_ 4), (0, .nameAndType 5 6), (0, u "java/lang/Object"), (0, u "<init>"), (0, u "()V"), (0, .class_ 8), (0, u "java/lang/Record")] 13

def k7c0 : Code := { maxStack := 1, maxLocals := 1, code := jdk_30_method_1_code, exceptionTable := #[], attributes := #[] }
def k7m0 : Method := { name := "<init>", desc := "()V", sig := { parameters := [], returnType := none }, accessFlags := 4, code := some k7c0 }
/-- java/lang/Record -/
def k7 : Class := { plain "java/lang/Record" (some 0) with
  accessFlags := 1057
  interfaces := #[]
  cf := some (fileOf pool7 7 #[] #[{ accessFlags := 4, nameIndex := 5, descriptorIndex := 6, attributes := #[] }] 1057 2 #[] #[])
  fields := #[]
  methods := #[k7m0]
  instanceTypes := #[]
  staticTypes := #[]
  resolved := Array.replicate 22 none
  statics := none }

def pool8 : Array CpInfo := pool [(1, .methodref 2 3), (0, .class_ 4), (0, .nameAndType 5 6), (0, u "java/lang/Record"), (0, u "<init>"), (0, u "()V"), (0, .fieldref 8 9), (0, .class_ 10), (0, .nameAndType 11 12), (0, u "com/example/corestone/corestone/BulkRequest$Line"), (0, u "number"), (0, u "I"), (0, .fieldref 8 14), (0, .nameAndType 15 16), (0, u "handle"), (0, u "Ljava/util/Optional;"), (0, .fieldref 8 18), (0, .nameAndType 19 16), (0, u "refusal"), (0, .methodref 21 22), (0, .class_ 23), (0, .nameAndType 24 25), (0, u "java/util/Optional"), (0, u "of"), (0, u "(Ljava/lang/Object;)Ljava/util/Optional;"), (0, .methodref 21 27), (0, .nameAndType 28 29), (0, u "empty"), (0, u "()Ljava/util/Optional;"), (0, .methodref 8 31), (0, .nameAndType 5 32), (0, u "(ILjava/util/Optional;Ljava/util/Optional;)V"), (21, u "refused"), (0, u "(ILcom/example/corestone/corestone/RefusedException$Refusal;)Lcom/example/corestone/corestone/BulkRequest$Line;"), (1, u "()I"), (6, .class_ 65), (0, u "com/example/corestone/corestone/BulkRequest")] 26

def k8c0 : Code := { maxStack := 2, maxLocals := 4, code := prog_3_method_1_code, exceptionTable := #[], attributes := #[] }
def k8m0 : Method := { name := "<init>", desc := "(ILjava/util/Optional;Ljava/util/Optional;)V", sig := { parameters := [.int, (.object "java/util/Optional"), (.object "java/util/Optional")], returnType := none }, accessFlags := 0, code := some k8c0 }
def k8c1 : Code := { maxStack := 5, maxLocals := 2, code := prog_3_method_3_code, exceptionTable := #[], attributes := #[] }
def k8m1 : Method := { name := "refused", desc := "(ILcom/example/corestone/corestone/RefusedException$Refusal;)Lcom/example/corestone/corestone/BulkRequest$Line;", sig := { parameters := [.int, (.object "com/example/corestone/corestone/RefusedException$Refusal")], returnType := some (.object "com/example/corestone/corestone/BulkRequest$Line") }, accessFlags := 8, code := some k8c1 }
def k8c2 : Code := { maxStack := 1, maxLocals := 1, code := prog_3_method_7_code, exceptionTable := #[], attributes := #[] }
def k8m2 : Method := { name := "number", desc := "()I", sig := { parameters := [], returnType := some .int }, accessFlags := 1, code := some k8c2 }
def k8c3 : Code := { maxStack := 1, maxLocals := 1, code := prog_3_method_8_code, exceptionTable := #[], attributes := #[] }
def k8m3 : Method := { name := "handle", desc := "()Ljava/util/Optional;", sig := { parameters := [], returnType := some (.object "java/util/Optional") }, accessFlags := 1, code := some k8c3 }
def k8c4 : Code := { maxStack := 1, maxLocals := 1, code := prog_3_method_9_code, exceptionTable := #[], attributes := #[] }
def k8m4 : Method := { name := "refusal", desc := "()Ljava/util/Optional;", sig := { parameters := [], returnType := some (.object "java/util/Optional") }, accessFlags := 1, code := some k8c4 }
/-- com/example/corestone/corestone/BulkRequest$Line -/
def k8 : Class := { plain "com/example/corestone/corestone/BulkRequest$Line" (some 7) with
  accessFlags := 48
  interfaces := #[]
  cf := some (fileOf pool8 8 #[.nestHost 64] #[{ accessFlags := 0, nameIndex := 5, descriptorIndex := 32, attributes := #[] }, { accessFlags := 8, nameIndex := 54, descriptorIndex := 55, attributes := #[] }, { accessFlags := 1, nameIndex := 11, descriptorIndex := 57, attributes := #[] }, { accessFlags := 1, nameIndex := 15, descriptorIndex := 29, attributes := #[] }, { accessFlags := 1, nameIndex := 19, descriptorIndex := 29, attributes := #[] }] 48 2 #[] #[{ accessFlags := 18, nameIndex := 11, descriptorIndex := 12, attributes := #[] }, { accessFlags := 18, nameIndex := 15, descriptorIndex := 16, attributes := #[] }, { accessFlags := 18, nameIndex := 19, descriptorIndex := 16, attributes := #[] }])
  fields := #[{ name := "number", type := .int, accessFlags := 18, slot := 0, constantValue := 0 }, { name := "handle", type := (.object "java/util/Optional"), accessFlags := 18, slot := 1, constantValue := 0 }, { name := "refusal", type := (.object "java/util/Optional"), accessFlags := 18, slot := 2, constantValue := 0 }]
  methods := #[k8m0, k8m1, k8m2, k8m3, k8m4]
  instanceTypes := #[.int, (.object "java/util/Optional"), (.object "java/util/Optional")]
  staticTypes := #[]
  resolved := Array.replicate 92 none
  statics := none }

def pool9 : Array CpInfo := pool [(1, .fieldref 2 3), (0, .class_ 4), (0, .nameAndType 5 6), (0, u "java/util/Optional"), (0, u "EMPTY"), (0, u "Ljava/util/Optional;"), (0, .methodref 8 9), (0, .class_ 10), (0, .nameAndType 11 12), (0, u "java/lang/Object"), (0, u "<init>"), (0, u "()V"), (0, .fieldref 2 14), (0, .nameAndType 15 16), (0, u "value"), (0, u "Ljava/lang/Object;"), (0, .methodref 18 19), (0, .class_ 20), (0, .nameAndType 21 22), (0, u "java/util/Objects"), (0, u "requireNonNull"), (0, u "(Ljava/lang/Object;)Ljava/lang/Object;"), (0, .methodref 2 24), (0, .nameAndType 11 25), (0, u "(Ljava/lang/Object;)V"), (20, u "()Z"), (8, u "empty"), (0, u "()Ljava/util/Optional;"), (8, u "(Ljava/lang/Object;)Ljava/util/Optional;"), (2, u "isPresent"), (4, u "get"), (0, u "()Ljava/lang/Object;"), (7, u "of")] 104

def k9c0 : Code := { maxStack := 1, maxLocals := 1, code := jdk_32_method_1_code, exceptionTable := #[], attributes := #[] }
def k9m0 : Method := { name := "empty", desc := "()Ljava/util/Optional;", sig := { parameters := [], returnType := some (.object "java/util/Optional") }, accessFlags := 9, code := some k9c0 }
def k9c1 : Code := { maxStack := 2, maxLocals := 2, code := jdk_32_method_2_code, exceptionTable := #[], attributes := #[] }
def k9m1 : Method := { name := "<init>", desc := "(Ljava/lang/Object;)V", sig := { parameters := [(.object "java/lang/Object")], returnType := none }, accessFlags := 2, code := some k9c1 }
def k9c2 : Code := { maxStack := 3, maxLocals := 1, code := jdk_32_method_3_code, exceptionTable := #[], attributes := #[] }
def k9m2 : Method := { name := "of", desc := "(Ljava/lang/Object;)Ljava/util/Optional;", sig := { parameters := [(.object "java/lang/Object")], returnType := some (.object "java/util/Optional") }, accessFlags := 9, code := some k9c2 }
def k9c3 : Code := { maxStack := 3, maxLocals := 1, code := jdk_32_method_5_code, exceptionTable := #[], attributes := #[] }
def k9m3 : Method := { name := "get", desc := "()Ljava/lang/Object;", sig := { parameters := [], returnType := some (.object "java/lang/Object") }, accessFlags := 1, code := some k9c3 }
def k9c4 : Code := { maxStack := 1, maxLocals := 1, code := jdk_32_method_6_code, exceptionTable := #[], attributes := #[] }
def k9m4 : Method := { name := "isPresent", desc := "()Z", sig := { parameters := [], returnType := some .boolean }, accessFlags := 1, code := some k9c4 }
/-- java/util/Optional -/
def k9 : Class := { plain "java/util/Optional" (some 0) with
  accessFlags := 49
  interfaces := #[]
  cf := some (fileOf pool9 2 #[] #[{ accessFlags := 9, nameIndex := 55, descriptorIndex := 56, attributes := #[] }, { accessFlags := 2, nameIndex := 11, descriptorIndex := 25, attributes := #[] }, { accessFlags := 9, nameIndex := 82, descriptorIndex := 65, attributes := #[] }, { accessFlags := 1, nameIndex := 73, descriptorIndex := 74, attributes := #[] }, { accessFlags := 1, nameIndex := 68, descriptorIndex := 46, attributes := #[] }] 49 8 #[] #[{ accessFlags := 26, nameIndex := 5, descriptorIndex := 6, attributes := #[] }, { accessFlags := 18, nameIndex := 15, descriptorIndex := 16, attributes := #[] }])
  fields := #[{ name := "EMPTY", type := (.object "java/util/Optional"), accessFlags := 26, slot := 0, constantValue := 0 }, { name := "value", type := (.object "java/lang/Object"), accessFlags := 18, slot := 0, constantValue := 0 }]
  methods := #[k9m0, k9m1, k9m2, k9m3, k9m4]
  instanceTypes := #[(.object "java/lang/Object")]
  staticTypes := #[(.object "java/util/Optional")]
  resolved := Array.replicate 187 none
  statics := some 1 }

def pool10 : Array CpInfo := pool [(2, .class_ 4), (1, u "java/lang/Object"), (0, u "<init>"), (0, u "()V"), (35, .class_ 44), (1, u "java/util/Objects"), (0, u "requireNonNull"), (0, u "(Ljava/lang/Object;)Ljava/lang/Object;")] 137

def k10m0 : Method := { name := "<init>", desc := "()V", sig := { parameters := [], returnType := none }, accessFlags := 2, code := none }
def k10c1 : Code := { maxStack := 2, maxLocals := 1, code := jdk_31_method_10_code, exceptionTable := #[], attributes := #[] }
def k10m1 : Method := { name := "requireNonNull", desc := "(Ljava/lang/Object;)Ljava/lang/Object;", sig := { parameters := [(.object "java/lang/Object")], returnType := some (.object "java/lang/Object") }, accessFlags := 9, code := some k10c1 }
/-- java/util/Objects -/
def k10 : Class := { plain "java/util/Objects" (some 0) with
  accessFlags := 49
  interfaces := #[]
  cf := some (fileOf pool10 42 #[] #[{ accessFlags := 2, nameIndex := 5, descriptorIndex := 6, attributes := #[] }, { accessFlags := 9, nameIndex := 45, descriptorIndex := 46, attributes := #[] }] 49 2 #[] #[])
  fields := #[]
  methods := #[k10m0, k10m1]
  instanceTypes := #[]
  staticTypes := #[]
  resolved := Array.replicate 184 none
  statics := none }

def pool11 : Array CpInfo := pool [(1, u "java/lang/Cloneable"), (0, .class_ 1), (0, u "java/lang/Object"), (0, .class_ 3)] 3

/-- java/lang/Cloneable -/
def k11 : Class := { plain "java/lang/Cloneable" (some 0) with
  accessFlags := 1537
  interfaces := #[]
  cf := some (fileOf pool11 2 #[] #[] 1537 4 #[] #[])
  fields := #[]
  methods := #[]
  instanceTypes := #[]
  staticTypes := #[]
  resolved := Array.replicate 8 none
  statics := none }

/-- the primitive byte -/
def k12 : Class := { plain "byte" none with kind := .primitive 'B', accessFlags := 0x411 }
/-- [B -/
def k13 : Class := { plain "[B" (some 0) with kind := .array 12 .byte, interfaces := #[11, 4], accessFlags := 1041 }

def heap : Heap := #[{ cls := 6, slots := #[.ref 5, .ref 3, .ref 9, .ref 2, .ref 4, .ref 6, .ref 8, .ref 7, .null], vm := .statics 6 },
  { cls := 9, slots := #[.ref 10], vm := .statics 9 },
  { cls := 6, slots := #[.null, .int 0, .int 0], vm := .none },
  { cls := 6, slots := #[.null, .int 0, .int 0], vm := .none },
  { cls := 6, slots := #[.null, .int 0, .int 0], vm := .none },
  { cls := 6, slots := #[.null, .int 0, .int 0], vm := .none },
  { cls := 6, slots := #[.null, .int 0, .int 0], vm := .none },
  { cls := 6, slots := #[.null, .int 0, .int 0], vm := .none },
  { cls := 6, slots := #[.null, .int 0, .int 0], vm := .none },
  { cls := 6, slots := #[.null, .int 0, .int 0], vm := .none },
  { cls := 9, slots := #[.null], vm := .none }]
def classes : Array Class := #[k0, k1, k2, k3, k4, k5, k6, k7, k8, k9, k10, k11, k12, k13]
def interned : List (Array UInt16 × Addr) := []
def slotsUsed : Nat := 35
def theMethod : MethodId := ⟨1, 2⟩
def args0 : Array Value := #[.int 5, .int 3]
def aboutOver (below : List Frame) : State where
  vm := { classes := classes, interned := interned.toArray }
  heap := heap
  slotsUsed := slotsUsed
  threads := #[{ frames := .invoking theMethod args0 :: below }]
def below0 : List Frame := [.native { method := ⟨0, 0⟩, args := #[] }]
def about1 : State := aboutOver below0
def p0 : Program := .bare "" "" ""
def e0 : Env := launch0.env 0 0 0
theorem w_frames : about1.frames = Frame.invoking theMethod args0 :: below0 := rfl
set_option maxRecDepth 65536 in
theorem w_args : argsFit about1.vm theMethod args0 = true := by decide +kernel
set_option maxRecDepth 65536 in
theorem w_heap : heapFits about1 = true := by decide +kernel
set_option maxRecDepth 65536 in
theorem w_runnable : about1.curStatus? = some .runnable := by decide +kernel
set_option maxRecDepth 65536 in
theorem w_alone : about1.alone = true := by decide +kernel
set_option maxRecDepth 65536 in
theorem w_named : about1.methodNamed? x = some theMethod := by decide +kernel
set_option maxRecDepth 65536 in
theorem w_hears : about1.hears theMethod below0 = true := by decide +kernel
set_option maxRecDepth 65536 in
theorem w_ripe : about1.ripe theMethod args0 below0 = true := by decide +kernel
theorem w_running : about1.status = .running := rfl
set_option maxRecDepth 65536 in
theorem w_room : about1.hasRoom e0.platform room_1 = true :=
  launch0.hasRoom_least _ room_1 (by decide +kernel) (by decide +kernel) (by decide +kernel) (by decide +kernel) (by decide +kernel) (by decide +kernel)
theorem allAtoms_all (ts : List Jvm.Cond) (a : Array Jvm.Value) (st : Jvm.State) : (allAtoms ts).before a st = ts.all (fun c => c.before a st) := by
  induction ts with
  | nil => rfl
  | cons c t ih =>
    show (Jvm.Cond.and c (allAtoms t)).before a st = _
    rw [Jvm.Cond.before_and, ih, List.all_cons]
def words1 : List Jvm.Cond := Jvm.Cond.code x code maxLocals ret :: tables_1
/-- a 'code' word, met by the world's own term for the bytes: nothing is compared byte by byte -/
theorem code_word {y : MethodName} {bytes : ByteArray} {mx : Nat} {rt : Option FieldType} {a : Array Value} {s : State} {m : MethodId} {meth : Method} {c : Code} (h1 : s.methodNamed? y = some m) (h2 : s.vm.method? m = some meth) (h3 : meth.code = some c) (h4 : c.code = bytes)
    (h5 : (c.maxLocals == mx && c.exceptionTable.isEmpty && decide (c.maxStack ≤ mostOperands) && decide (meth.sig.returnType = rt) && !meth.locks && decide (parseMethodDescriptor y.desc = some meth.sig)) = true) : (Jvm.Cond.code y bytes mx rt).before a s = true := by
  simp only [Bool.and_eq_true, beq_iff_eq, Bool.not_eq_true', decide_eq_true_eq] at h5
  obtain ⟨⟨⟨⟨⟨g1, g2⟩, g3⟩, g4⟩, g5⟩, g6⟩ := h5
  simp [Cond.before, Cond.holds, Cond.value, h1, h2, h3, h4, g1, g2, g3, g4, g5, g6]
def isCode : Jvm.Cond → Bool
  | .code _ _ _ _ => true
  | _ => false
theorem all_split {L : List Jvm.Cond} {P : Jvm.Cond → Bool} (h1 : L.all (fun c => isCode c || P c) = true) (h2 : ∀ c ∈ L.filter isCode, P c = true) : L.all P = true := by
  refine List.all_eq_true.mpr fun c hc => ?_
  have h := List.all_eq_true.mp h1 c hc
  rcases Bool.eq_false_or_eq_true (isCode c) with hi | hi
  · exact h2 c (List.mem_filter.mpr ⟨hc, hi⟩)
  · simpa [hi] using h
set_option maxRecDepth 65536 in
theorem w_c0 : (Jvm.Cond.code x code maxLocals ret).before args0 about1 = true := code_word (m := ⟨1, 2⟩) (meth := k1m2) (c := k1c2) (by decide +kernel) rfl rfl rfl (by decide +kernel)
set_option maxRecDepth 65536 in
theorem w_c1 : (Jvm.Cond.code ({ cls := "com/example/corestone/corestone/LineRefusedPinLaw", name := "pick", desc := "(I)Lcom/example/corestone/corestone/RefusedException$Refusal;" } : Jvm.MethodName) method_2_code (2 : Nat) (Option.some (Jvm.ClassFile.FieldType.object "com/example/corestone/corestone/RefusedException$Refusal"))).before args0 about1 = true := code_word (m := ⟨1, 1⟩) (meth := k1m1) (c := k1c1) (by decide +kernel) rfl rfl rfl (by decide +kernel)
set_option maxRecDepth 65536 in
theorem w_c2 : (Jvm.Cond.code ({ cls := "com/example/corestone/corestone/BulkRequest$Line", name := "refused", desc := "(ILcom/example/corestone/corestone/RefusedException$Refusal;)Lcom/example/corestone/corestone/BulkRequest$Line;" } : Jvm.MethodName) prog_3_method_3_code (2 : Nat) (Option.some (Jvm.ClassFile.FieldType.object "com/example/corestone/corestone/BulkRequest$Line"))).before args0 about1 = true := code_word (m := ⟨8, 1⟩) (meth := k8m1) (c := k8c1) (by decide +kernel) rfl rfl rfl (by decide +kernel)
set_option maxRecDepth 65536 in
theorem w_c3 : (Jvm.Cond.code ({ cls := "java/util/Optional", name := "empty", desc := "()Ljava/util/Optional;" } : Jvm.MethodName) jdk_32_method_1_code (1 : Nat) (Option.some (Jvm.ClassFile.FieldType.object "java/util/Optional"))).before args0 about1 = true := code_word (m := ⟨9, 0⟩) (meth := k9m0) (c := k9c0) (by decide +kernel) rfl rfl rfl (by decide +kernel)
set_option maxRecDepth 65536 in
theorem w_c4 : (Jvm.Cond.code ({ cls := "java/util/Optional", name := "of", desc := "(Ljava/lang/Object;)Ljava/util/Optional;" } : Jvm.MethodName) jdk_32_method_3_code (1 : Nat) (Option.some (Jvm.ClassFile.FieldType.object "java/util/Optional"))).before args0 about1 = true := code_word (m := ⟨9, 2⟩) (meth := k9m2) (c := k9c2) (by decide +kernel) rfl rfl rfl (by decide +kernel)
set_option maxRecDepth 65536 in
theorem w_c5 : (Jvm.Cond.code ({ cls := "java/util/Objects", name := "requireNonNull", desc := "(Ljava/lang/Object;)Ljava/lang/Object;" } : Jvm.MethodName) jdk_31_method_10_code (1 : Nat) (Option.some (Jvm.ClassFile.FieldType.object "java/lang/Object"))).before args0 about1 = true := code_word (m := ⟨10, 1⟩) (meth := k10m1) (c := k10c1) (by decide +kernel) rfl rfl rfl (by decide +kernel)
set_option maxRecDepth 65536 in
theorem w_c6 : (Jvm.Cond.code ({ cls := "java/util/Optional", name := "<init>", desc := "(Ljava/lang/Object;)V" } : Jvm.MethodName) jdk_32_method_2_code (2 : Nat) (Option.none : Option Jvm.ClassFile.FieldType)).before args0 about1 = true := code_word (m := ⟨9, 1⟩) (meth := k9m1) (c := k9c1) (by decide +kernel) rfl rfl rfl (by decide +kernel)
set_option maxRecDepth 65536 in
theorem w_c7 : (Jvm.Cond.code ({ cls := "java/lang/Object", name := "<init>", desc := "()V" } : Jvm.MethodName) object_method_1_code (1 : Nat) (Option.none : Option Jvm.ClassFile.FieldType)).before args0 about1 = true := code_word (m := ⟨0, 0⟩) (meth := k0m0) (c := k0c0) (by decide +kernel) rfl rfl rfl (by decide +kernel)
set_option maxRecDepth 65536 in
theorem w_c8 : (Jvm.Cond.code ({ cls := "com/example/corestone/corestone/BulkRequest$Line", name := "<init>", desc := "(ILjava/util/Optional;Ljava/util/Optional;)V" } : Jvm.MethodName) prog_3_method_1_code (4 : Nat) (Option.none : Option Jvm.ClassFile.FieldType)).before args0 about1 = true := code_word (m := ⟨8, 0⟩) (meth := k8m0) (c := k8c0) (by decide +kernel) rfl rfl rfl (by decide +kernel)
set_option maxRecDepth 65536 in
theorem w_c9 : (Jvm.Cond.code ({ cls := "java/lang/Record", name := "<init>", desc := "()V" } : Jvm.MethodName) jdk_30_method_1_code (1 : Nat) (Option.none : Option Jvm.ClassFile.FieldType)).before args0 about1 = true := code_word (m := ⟨7, 0⟩) (meth := k7m0) (c := k7c0) (by decide +kernel) rfl rfl rfl (by decide +kernel)
set_option maxRecDepth 65536 in
theorem w_c10 : (Jvm.Cond.code ({ cls := "com/example/corestone/corestone/BulkRequest$Line", name := "number", desc := "()I" } : Jvm.MethodName) prog_3_method_7_code (1 : Nat) (Option.some Jvm.ClassFile.FieldType.int)).before args0 about1 = true := code_word (m := ⟨8, 2⟩) (meth := k8m2) (c := k8c2) (by decide +kernel) rfl rfl rfl (by decide +kernel)
set_option maxRecDepth 65536 in
theorem w_c11 : (Jvm.Cond.code ({ cls := "com/example/corestone/corestone/BulkRequest$Line", name := "handle", desc := "()Ljava/util/Optional;" } : Jvm.MethodName) prog_3_method_8_code (1 : Nat) (Option.some (Jvm.ClassFile.FieldType.object "java/util/Optional"))).before args0 about1 = true := code_word (m := ⟨8, 3⟩) (meth := k8m3) (c := k8c3) (by decide +kernel) rfl rfl rfl (by decide +kernel)
set_option maxRecDepth 65536 in
theorem w_c12 : (Jvm.Cond.code ({ cls := "java/util/Optional", name := "isPresent", desc := "()Z" } : Jvm.MethodName) jdk_32_method_6_code (1 : Nat) (Option.some Jvm.ClassFile.FieldType.boolean)).before args0 about1 = true := code_word (m := ⟨9, 4⟩) (meth := k9m4) (c := k9c4) (by decide +kernel) rfl rfl rfl (by decide +kernel)
set_option maxRecDepth 65536 in
theorem w_c13 : (Jvm.Cond.code ({ cls := "com/example/corestone/corestone/BulkRequest$Line", name := "refusal", desc := "()Ljava/util/Optional;" } : Jvm.MethodName) prog_3_method_9_code (1 : Nat) (Option.some (Jvm.ClassFile.FieldType.object "java/util/Optional"))).before args0 about1 = true := code_word (m := ⟨8, 4⟩) (meth := k8m4) (c := k8c4) (by decide +kernel) rfl rfl rfl (by decide +kernel)
set_option maxRecDepth 65536 in
theorem w_c14 : (Jvm.Cond.code ({ cls := "java/util/Optional", name := "get", desc := "()Ljava/lang/Object;" } : Jvm.MethodName) jdk_32_method_5_code (1 : Nat) (Option.some (Jvm.ClassFile.FieldType.object "java/lang/Object"))).before args0 about1 = true := code_word (m := ⟨9, 3⟩) (meth := k9m3) (c := k9c3) (by decide +kernel) rfl rfl rfl (by decide +kernel)
def codes1 : List Jvm.Cond := [Jvm.Cond.code x code maxLocals ret, Jvm.Cond.code ({ cls := "com/example/corestone/corestone/LineRefusedPinLaw", name := "pick", desc := "(I)Lcom/example/corestone/corestone/RefusedException$Refusal;" } : Jvm.MethodName) method_2_code (2 : Nat) (Option.some (Jvm.ClassFile.FieldType.object "com/example/corestone/corestone/RefusedException$Refusal")), Jvm.Cond.code ({ cls := "com/example/corestone/corestone/BulkRequest$Line", name := "refused", desc := "(ILcom/example/corestone/corestone/RefusedException$Refusal;)Lcom/example/corestone/corestone/BulkRequest$Line;" } : Jvm.MethodName) prog_3_method_3_code (2 : Nat) (Option.some (Jvm.ClassFile.FieldType.object "com/example/corestone/corestone/BulkRequest$Line")), Jvm.Cond.code ({ cls := "java/util/Optional", name := "empty", desc := "()Ljava/util/Optional;" } : Jvm.MethodName) jdk_32_method_1_code (1 : Nat) (Option.some (Jvm.ClassFile.FieldType.object "java/util/Optional")), Jvm.Cond.code ({ cls := "java/util/Optional", name := "of", desc := "(Ljava/lang/Object;)Ljava/util/Optional;" } : Jvm.MethodName) jdk_32_method_3_code (1 : Nat) (Option.some (Jvm.ClassFile.FieldType.object "java/util/Optional")), Jvm.Cond.code ({ cls := "java/util/Objects", name := "requireNonNull", desc := "(Ljava/lang/Object;)Ljava/lang/Object;" } : Jvm.MethodName) jdk_31_method_10_code (1 : Nat) (Option.some (Jvm.ClassFile.FieldType.object "java/lang/Object")), Jvm.Cond.code ({ cls := "java/util/Optional", name := "<init>", desc := "(Ljava/lang/Object;)V" } : Jvm.MethodName) jdk_32_method_2_code (2 : Nat) (Option.none : Option Jvm.ClassFile.FieldType), Jvm.Cond.code ({ cls := "java/lang/Object", name := "<init>", desc := "()V" } : Jvm.MethodName) object_method_1_code (1 : Nat) (Option.none : Option Jvm.ClassFile.FieldType), Jvm.Cond.code ({ cls := "com/example/corestone/corestone/BulkRequest$Line", name := "<init>", desc := "(ILjava/util/Optional;Ljava/util/Optional;)V" } : Jvm.MethodName) prog_3_method_1_code (4 : Nat) (Option.none : Option Jvm.ClassFile.FieldType), Jvm.Cond.code ({ cls := "java/lang/Record", name := "<init>", desc := "()V" } : Jvm.MethodName) jdk_30_method_1_code (1 : Nat) (Option.none : Option Jvm.ClassFile.FieldType), Jvm.Cond.code ({ cls := "com/example/corestone/corestone/BulkRequest$Line", name := "number", desc := "()I" } : Jvm.MethodName) prog_3_method_7_code (1 : Nat) (Option.some Jvm.ClassFile.FieldType.int), Jvm.Cond.code ({ cls := "com/example/corestone/corestone/BulkRequest$Line", name := "handle", desc := "()Ljava/util/Optional;" } : Jvm.MethodName) prog_3_method_8_code (1 : Nat) (Option.some (Jvm.ClassFile.FieldType.object "java/util/Optional")), Jvm.Cond.code ({ cls := "java/util/Optional", name := "isPresent", desc := "()Z" } : Jvm.MethodName) jdk_32_method_6_code (1 : Nat) (Option.some Jvm.ClassFile.FieldType.boolean), Jvm.Cond.code ({ cls := "com/example/corestone/corestone/BulkRequest$Line", name := "refusal", desc := "()Ljava/util/Optional;" } : Jvm.MethodName) prog_3_method_9_code (1 : Nat) (Option.some (Jvm.ClassFile.FieldType.object "java/util/Optional")), Jvm.Cond.code ({ cls := "java/util/Optional", name := "get", desc := "()Ljava/lang/Object;" } : Jvm.MethodName) jdk_32_method_5_code (1 : Nat) (Option.some (Jvm.ClassFile.FieldType.object "java/lang/Object"))]
set_option maxRecDepth 65536 in
theorem codes_eq : words1.filter isCode = codes1 := rfl
theorem w_codes : ∀ c ∈ words1.filter isCode, c.before args0 about1 = true := by
  rw [codes_eq]
  intro c hc
  simp only [codes1, List.mem_cons, List.not_mem_nil, or_false] at hc
  rcases hc with rfl | rfl | rfl | rfl | rfl | rfl | rfl | rfl | rfl | rfl | rfl | rfl | rfl | rfl | rfl
  · exact w_c0
  · exact w_c1
  · exact w_c2
  · exact w_c3
  · exact w_c4
  · exact w_c5
  · exact w_c6
  · exact w_c7
  · exact w_c8
  · exact w_c9
  · exact w_c10
  · exact w_c11
  · exact w_c12
  · exact w_c13
  · exact w_c14
set_option maxRecDepth 65536 in
theorem w_t1 : (words1.take 24).all (fun c => isCode c || c.before args0 about1) = true := by decide +kernel
set_option maxRecDepth 65536 in
theorem w_t2 : ((words1.drop 24).take 24).all (fun c => isCode c || c.before args0 about1) = true := by decide +kernel
set_option maxRecDepth 65536 in
theorem w_t3 : (((words1.drop 24).drop 24).take 24).all (fun c => isCode c || c.before args0 about1) = true := by decide +kernel
set_option maxRecDepth 65536 in
theorem w_t4 : (((words1.drop 24).drop 24).drop 24).all (fun c => isCode c || c.before args0 about1) = true := by decide +kernel
theorem w_tables : (allAtoms (Jvm.Cond.code x code maxLocals ret :: tables_1)).before args0 about1 = true := by
  rw [allAtoms_all]
  show words1.all (fun c => c.before args0 about1) = true
  refine all_split ?_ w_codes
  rw [← List.take_append_drop 24 words1, List.all_append, w_t1, ← List.take_append_drop 24 (words1.drop 24), List.all_append, w_t2, ← List.take_append_drop 24 ((words1.drop 24).drop 24), List.all_append, w_t3, w_t4]
  rfl
set_option maxRecDepth 65536 in
theorem w_rest : rest_1_c.before args0 about1 = true := by decide +kernel
set_option maxRecDepth 65536 in
theorem w_case : (Jvm.Cond.and given_1 narrow_1).before args0 about1 = true := by decide +kernel
theorem w_applies : (headSpec (Jvm.Cond.code x code maxLocals ret :: tables_1) room_1).applies x e0.platform about1 = true :=
  (Spec.applies_iff w_frames).mpr ⟨w_running, w_runnable, w_alone, w_named, w_hears, w_ripe, w_room, w_tables⟩
theorem atStart : AtStart classFile x code maxLocals ret World_1 tables_1 room_1 Calls_1 rest_1 Pre_1 launch0 p0 e0 about1 theMethod args0 below0 :=
  ⟨lists_1, trivial, launch0.admits_env _ _ _, launch0.least_env, fairChoices_fair.cas, fairChoices_fair.clock, w_frames, w_args, w_heap, w_applies, trivial, w_rest, w_case⟩
end start1
theorem witness_1 : WitnessClaimed_1 := ⟨start1.p0, start1.e0, start1.about1, start1.theMethod, start1.args0, start1.below0, start1.atStart⟩
end Jvm.Pilot.@@N@@
