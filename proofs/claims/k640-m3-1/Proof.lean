import JvmDerived
import JvmDerived.Pilot.@@N@@Statement
import JvmDerived.Pilot.@@N@@Code
set_option linter.unusedVariables false
set_option linter.unusedSimpArgs false
namespace Jvm.RoadKit
open Sem ClassFile Op Lib Jvm.Stand Jvm.Free Jvm.LawKit
section New
variable {p : Program} {l : Launch} {e : Env} {R : Room} {s : State} {m : MethodId} {args : Array Value} {below : List Frame} {meth : Method} {c : Code} {T : State} {locs : List Loc} {cells slots : Nat}
theorem retI (X : Stand p l e R s m args below meth c T locs cells slots) (hx : p.tables.exec = Jvm.exec) {pc : Nat} {Ls : Array Slot} {z : Int32} {rest : List Value} (hret : meth.sig.returnType = some .int) (hd : decode c.code pc = .ok (.ireturn, 1)) {fs : List Frame}
    (hl : ∀ (f : JFrame) (acts : List Action), f.method = m → f.locked = none → f.entered = [] → (doReturn e (T.setTop f) acts (some (.int z))).1 = T.setFrames fs) : Steps p.tables e below (T.setTop (mkF m pc Ls (.int z :: rest))) (T.setFrames fs) := by
  have hm' : T.vm.method? m = some meth := X.method'
  have hn : narrow .int (.int z) = .int z := rfl
  show Steps p.tables e below (T.setTop { method := m, pc := pc, locals := Ls, stack := _ :: rest, locked := none }) _
  jvm_step X.here [X.here.top, hx, hd, hm', hret, hn]
  first | (intro acts; rw [hl _ acts rfl rfl rfl]) | rw [hl _ _ rfl rfl rfl]
  exact Steps.refl _
end New
end Jvm.RoadKit
namespace Jvm.Pilot.@@N@@
open Jvm Jvm.ClassFile Sem Op Lib Jvm.Free Jvm.Stand Jvm.LawKit Jvm.RoadKit Bundle Jvm.Pilot.@@N@@.Jvm.D
def QT (n0 : Nat) (v : Option Value) (h : Heap) (L : List Loc) : Prop := v = some (.int 1) ∧ Fr n0 L
def QP (r : Option Value) (h0 : Heap) (n0 : Nat) (v : Option Value) (h : Heap) (L : List Loc) : Prop := v = r ∧ Fr n0 L ∧ h = h0
theorem own_fld {Z : State} {args : Array Value} {t : Term} {C n d : String} {a : Addr} {i : Int32} (ev : t.eval args Z none [] Z = some (.ref a)) (h : (Cond.eq (Term.field t C n d) (Term.int i)).value args Z none Z [] = some true) : Fld Z Z.heap a C n d (.int i) := by
  have e := fld_at (C := C) (n := n) (dd := d) ev
  refine Fld.start ?_
  obtain ⟨x, y, h1, h2, k1, k2⟩ := cmp_v (Or.inl h)
  have h3 : y = .int i := (Option.some.inj ((Term.int_eval i).symm.trans h2)).symm
  subst h3
  obtain ⟨z, rfl⟩ := k2
  have q : z = i := by simpa [Cond.value, h1, h2] using h
  rw [← e, h1, q]
theorem own_fldn {Z : State} {args : Array Value} {t : Term} {C n d : String} {a : Addr} (ev : t.eval args Z none [] Z = some (.ref a)) (h : (Cond.eq (Term.field t C n d) Term.null).value args Z none Z [] = some true) : Fld Z Z.heap a C n d .null := Fld.start ((fld_at ev).symm.trans (null_v h))
theorem own_sti {Z : State} {args : Array Value} {C n d : String} {i : Int32} (h : (Cond.eq (Term.static C n d) (Term.int i)).value args Z none Z [] = some true) : (Term.static C n d).eval args Z none [] Z = some (.int i) := by
  obtain ⟨x, y, h1, h2, k1, k2⟩ := cmp_v (Or.inl h)
  have h3 : y = .int i := (Option.some.inj ((Term.int_eval i).symm.trans h2)).symm
  subst h3
  obtain ⟨z, rfl⟩ := k2
  have q : z = i := by simpa [Cond.value, h1, h2] using h
  rw [h1, q]
theorem own_sta_keep {Z : State} {h h' : Heap} {C n d : String} {v : Value} {ws : List Addr} (F : Sta Z h C n d v) (K : Keep h h' ws) (q : ∀ x ∈ ws, ∀ c : Cell, h[x]? = some c → c.vm.isStatics = false) : Sta Z h' C n d v := by
  obtain ⟨cf, i, k, f, st, cell, h1, h2, h3, h4, h5, h6, h7⟩ := F
  have ne : st ∉ ws := fun z => by rw [q st z cell h5] at h6; cases h6
  exact ⟨cf, i, k, f, st, cell, h1, h2, h3, h4, K.2.1 st cell h5 ne, h6, h7⟩
theorem own_ns {h : Heap} {x : Addr} {ws : List Addr} (p : ∀ c : Cell, h[x]? = some c → c.vm.isStatics = false) (q : ∀ y ∈ ws, ∀ c : Cell, h[y]? = some c → c.vm.isStatics = false) : ∀ y ∈ x :: ws, ∀ c : Cell, h[y]? = some c → c.vm.isStatics = false := fun y hy => (List.mem_cons.mp hy).elim (fun e => e ▸ p) (q y)
theorem own_notin {a x : Addr} {ws : List Addr} (p : a ≠ x) (q : a ∉ ws) : a ∉ x :: ws := fun h => (List.mem_cons.mp h).elim p q
theorem own_elem {Z : State} {args : Array Value} {t u : Term} {a b : Addr} {cl : Cell} {j : Int32} (ev : t.eval args Z none [] Z = some (.ref a)) (hc : Z.heap[a]? = some cl) (h : (Cond.eq (Term.elem t (Term.int j)) u).value args Z none Z [] = some true) (hu : u.eval args Z none [] Z = some (.ref b)) : cl.slots[j.toNatClampNeg]? = some (.ref b) := by
  obtain ⟨x, y, h1, h2, k1, k2⟩ := cmp_v (Or.inl h)
  have h3 : y = .ref b := Option.some.inj (h2.symm.trans hu)
  subst h3
  have hx : x.isRef = true := k2.2
  have e : x = .ref b := gotT (eq_R h1 h2 hx rfl) h
  rw [e] at h1
  exact (elem_in h1 ev (Term.int_eval j) hc).2
theorem own_and3 (x : Int32) : (x &&& (3 : Int32)) = (0 : Int32) ∨ (x &&& (3 : Int32)) = (1 : Int32) ∨ (x &&& (3 : Int32)) = (2 : Int32) ∨ (x &&& (3 : Int32)) = (3 : Int32) := by
  have h := c_and x (3 : Int32) (by decide)
  have e : (3 : Int32).toInt = 3 := by decide
  have e0 : (0 : Int32).toInt = 0 := by decide
  have e1 : (1 : Int32).toInt = 1 := by decide
  have e2 : (2 : Int32).toInt = 2 := by decide
  have e3 : (3 : Int32).toInt = 3 := by decide
  simp only [← Int32.toInt_inj, e0, e1, e2, e3]
  omega
theorem tw_2 {a0 : Array Value} {Z : State} (hw : ∀ d ∈ tables_1, d.before a0 Z = true) : (Jvm.Cond.initialized "com/example/knotwork/knotwork/store/SagaState").before a0 Z = true := hw _ (List.mem_of_getElem? (i := 2) rfl)
theorem tw_8 {a0 : Array Value} {Z : State} (hw : ∀ d ∈ tables_1, d.before a0 Z = true) : (Jvm.Cond.laysStatic "com/example/knotwork/knotwork/store/SagaState" "$VALUES" "[Lcom/example/knotwork/knotwork/store/SagaState;").before a0 Z = true := hw _ (List.mem_of_getElem? (i := 8) rfl)
abbrev S_0 (Z : State) (h : Heap) (v : Value) : Prop := Sta Z h "com/example/knotwork/knotwork/store/SagaState" "$VALUES" "[Lcom/example/knotwork/knotwork/store/SagaState;" v
abbrev E_0 (Z : State) (h : Heap) (a : Addr) : Prop := Exa Z h a "[Lcom/example/knotwork/knotwork/store/SagaState;"
theorem tw_16 {a0 : Array Value} {Z : State} (hw : ∀ d ∈ tables_1, d.before a0 Z = true) : (Jvm.Cond.laysStatic "com/example/knotwork/knotwork/store/SagaState" "RUNNING" "Lcom/example/knotwork/knotwork/store/SagaState;").before a0 Z = true := hw _ (List.mem_of_getElem? (i := 16) rfl)
abbrev S_1 (Z : State) (h : Heap) (v : Value) : Prop := Sta Z h "com/example/knotwork/knotwork/store/SagaState" "RUNNING" "Lcom/example/knotwork/knotwork/store/SagaState;" v
abbrev E_1 (Z : State) (h : Heap) (a : Addr) : Prop := Exa Z h a "com/example/knotwork/knotwork/store/SagaState"
theorem tw_17 {a0 : Array Value} {Z : State} (hw : ∀ d ∈ tables_1, d.before a0 Z = true) : (Jvm.Cond.laysStatic "com/example/knotwork/knotwork/store/SagaState" "COMPENSATING" "Lcom/example/knotwork/knotwork/store/SagaState;").before a0 Z = true := hw _ (List.mem_of_getElem? (i := 17) rfl)
abbrev S_2 (Z : State) (h : Heap) (v : Value) : Prop := Sta Z h "com/example/knotwork/knotwork/store/SagaState" "COMPENSATING" "Lcom/example/knotwork/knotwork/store/SagaState;" v
theorem tw_18 {a0 : Array Value} {Z : State} (hw : ∀ d ∈ tables_1, d.before a0 Z = true) : (Jvm.Cond.laysStatic "com/example/knotwork/knotwork/store/SagaState" "COMPLETED" "Lcom/example/knotwork/knotwork/store/SagaState;").before a0 Z = true := hw _ (List.mem_of_getElem? (i := 18) rfl)
abbrev S_3 (Z : State) (h : Heap) (v : Value) : Prop := Sta Z h "com/example/knotwork/knotwork/store/SagaState" "COMPLETED" "Lcom/example/knotwork/knotwork/store/SagaState;" v
theorem tw_19 {a0 : Array Value} {Z : State} (hw : ∀ d ∈ tables_1, d.before a0 Z = true) : (Jvm.Cond.laysStatic "com/example/knotwork/knotwork/store/SagaState" "COMPENSATED" "Lcom/example/knotwork/knotwork/store/SagaState;").before a0 Z = true := hw _ (List.mem_of_getElem? (i := 19) rfl)
abbrev S_4 (Z : State) (h : Heap) (v : Value) : Prop := Sta Z h "com/example/knotwork/knotwork/store/SagaState" "COMPENSATED" "Lcom/example/knotwork/knotwork/store/SagaState;" v
abbrev F_0 (Z : State) (h : Heap) (a : Addr) (v : Value) : Prop := Fld Z h a "com/example/knotwork/knotwork/store/SagaState" "code" "B" v
theorem tw_0 {a0 : Array Value} {Z : State} (hw : ∀ d ∈ tables_1, d.before a0 Z = true) : (Jvm.Cond.methodLink "com/example/knotwork/knotwork/store/SagaStateOfCodePinLaw" (22 : Nat) ({ cls := "com/example/knotwork/knotwork/store/SagaState", name := "ofCode", desc := "(B)Lcom/example/knotwork/knotwork/store/SagaState;" } : Jvm.MethodName)).before a0 Z = true := hw _ (List.mem_of_getElem? (i := 0) rfl)
theorem tw_3 {a0 : Array Value} {Z : State} (hw : ∀ d ∈ tables_1, d.before a0 Z = true) : (Jvm.Cond.code ({ cls := "com/example/knotwork/knotwork/store/SagaState", name := "ofCode", desc := "(B)Lcom/example/knotwork/knotwork/store/SagaState;" } : Jvm.MethodName) prog_30_method_6_code (5 : Nat) (Option.some (Jvm.ClassFile.FieldType.object "com/example/knotwork/knotwork/store/SagaState"))).before a0 Z = true := hw _ (List.mem_of_getElem? (i := 3) rfl)
theorem d1_0 : decode prog_30_method_6_code 0 = .ok (.invokestatic 55, 3) := by decide +kernel
theorem tw_4 {a0 : Array Value} {Z : State} (hw : ∀ d ∈ tables_1, d.before a0 Z = true) : (Jvm.Cond.methodLink "com/example/knotwork/knotwork/store/SagaState" (55 : Nat) ({ cls := "com/example/knotwork/knotwork/store/SagaState", name := "values", desc := "()[Lcom/example/knotwork/knotwork/store/SagaState;" } : Jvm.MethodName)).before a0 Z = true := hw _ (List.mem_of_getElem? (i := 4) rfl)
theorem tw_6 {a0 : Array Value} {Z : State} (hw : ∀ d ∈ tables_1, d.before a0 Z = true) : (Jvm.Cond.code ({ cls := "com/example/knotwork/knotwork/store/SagaState", name := "values", desc := "()[Lcom/example/knotwork/knotwork/store/SagaState;" } : Jvm.MethodName) prog_30_method_1_code (0 : Nat) (Option.some (Jvm.ClassFile.FieldType.array (Jvm.ClassFile.FieldType.object "com/example/knotwork/knotwork/store/SagaState")))).before a0 Z = true := hw _ (List.mem_of_getElem? (i := 6) rfl)
theorem d2_0 : decode prog_30_method_1_code 0 = .ok (.getstatic 16, 3) := by decide +kernel
theorem tw_7 {a0 : Array Value} {Z : State} (hw : ∀ d ∈ tables_1, d.before a0 Z = true) : (Jvm.Cond.fieldLink "com/example/knotwork/knotwork/store/SagaState" (16 : Nat) "com/example/knotwork/knotwork/store/SagaState" "$VALUES" "[Lcom/example/knotwork/knotwork/store/SagaState;").before a0 Z = true := hw _ (List.mem_of_getElem? (i := 7) rfl)
theorem d2_3 : decode prog_30_method_1_code 3 = .ok (.invokevirtual 20, 3) := by decide +kernel
theorem tw_9 {a0 : Array Value} {Z : State} (hw : ∀ d ∈ tables_1, d.before a0 Z = true) : (Jvm.Cond.methodLink "com/example/knotwork/knotwork/store/SagaState" (20 : Nat) ({ cls := "[Lcom/example/knotwork/knotwork/store/SagaState;", name := "clone", desc := "()Ljava/lang/Object;" } : Jvm.MethodName)).before a0 Z = true := hw _ (List.mem_of_getElem? (i := 9) rfl)
theorem tw_10 {a0 : Array Value} {Z : State} (hw : ∀ d ∈ tables_1, d.before a0 Z = true) : (Jvm.Cond.sameMethod "[Lcom/example/knotwork/knotwork/store/SagaState;" "java/lang/Object" "clone" "()Ljava/lang/Object;").before a0 Z = true := hw _ (List.mem_of_getElem? (i := 10) rfl)
theorem tw_14 {a0 : Array Value} {Z : State} (hw : ∀ d ∈ tables_1, d.before a0 Z = true) : (Jvm.Cond.native ({ cls := "java/lang/Object", name := "clone", desc := "()Ljava/lang/Object;" } : Jvm.MethodName)).before a0 Z = true := hw _ (List.mem_of_getElem? (i := 14) rfl)
theorem tw_12 {a0 : Array Value} {Z : State} (hw : ∀ d ∈ tables_1, d.before a0 Z = true) : (Jvm.Cond.instanceMethod ({ cls := "java/lang/Object", name := "clone", desc := "()Ljava/lang/Object;" } : Jvm.MethodName)).before a0 Z = true := hw _ (List.mem_of_getElem? (i := 12) rfl)
theorem tw_13 {a0 : Array Value} {Z : State} (hw : ∀ d ∈ tables_1, d.before a0 Z = true) : (Jvm.Cond.selects "[Lcom/example/knotwork/knotwork/store/SagaState;" ({ cls := "[Lcom/example/knotwork/knotwork/store/SagaState;", name := "clone", desc := "()Ljava/lang/Object;" } : Jvm.MethodName) ({ cls := "java/lang/Object", name := "clone", desc := "()Ljava/lang/Object;" } : Jvm.MethodName)).before a0 Z = true := hw _ (List.mem_of_getElem? (i := 13) rfl)
theorem tw_15 {a0 : Array Value} {Z : State} (hw : ∀ d ∈ tables_1, d.before a0 Z = true) : (Jvm.Cond.castable "[Lcom/example/knotwork/knotwork/store/SagaState;" "java/lang/Cloneable").before a0 Z = true := hw _ (List.mem_of_getElem? (i := 15) rfl)
theorem d2_6 : decode prog_30_method_1_code 6 = .ok (.checkcast 21, 3) := by decide +kernel
theorem tw_21 {a0 : Array Value} {Z : State} (hw : ∀ d ∈ tables_1, d.before a0 Z = true) : (Jvm.Cond.classLink "com/example/knotwork/knotwork/store/SagaState" (21 : Nat) "[Lcom/example/knotwork/knotwork/store/SagaState;").before a0 Z = true := hw _ (List.mem_of_getElem? (i := 21) rfl)
theorem d2_9 : decode prog_30_method_1_code 9 = .ok (.areturn, 1) := by decide +kernel
abbrev R_1_1_4_14 : Room := { frames := 1, cells := 1, slots := 4, locals := 14 }
abbrev M_0 : MethodName := ⟨"com/example/knotwork/knotwork/store/SagaState", "values", "()[Lcom/example/knotwork/knotwork/store/SagaState;"⟩
theorem ef2_ (m : MethodId)  : entryFrame m #[] 0 = mkF m 0 #[] [] := by first | (simp [entryFrame, mkF, argsToLocals, Value.category]; done) | rfl
def Q2_31 (Z : State) (kcl_VALUES : ClassId) (a_RUNNING : Addr) (a_COMPENSATING : Addr) (a_COMPLETED : Addr) (a_COMPENSATED : Addr) (h0 : Heap) (n0 : Nat) (v : Option Value) (h : Heap) (L : List Loc) : Prop := ∃ (b29 : Addr), v = (some (.ref b29)) ∧ Fr n0 L ∧ Keep h0 h [] ∧ h0.size ≤ b29 ∧ Arv Z h b29 kcl_VALUES (.object "com/example/knotwork/knotwork/store/SagaState") (4 : Int32) [(.ref a_RUNNING), (.ref a_COMPENSATING), (.ref a_COMPLETED), (.ref a_COMPENSATED)] .null ∧ E_0 Z h b29
theorem pn_com_example_knotwork_knotwork_store_SagaState : plainName "com/example/knotwork/knotwork/store/SagaState" = true := by first | (simp [plainName, overriddenIn]; done) | decide +kernel
set_option maxRecDepth 65536 in
set_option maxHeartbeats 40000000 in
theorem rm2_30 (l : Launch) (Z : State) (a0 : Array Value) (hw : ∀ d ∈ tables_1, d.before a0 Z = true) (ws : List Jvm.Cond) (a__VALUES : Addr) (kcl_VALUES : ClassId) (a_RUNNING : Addr) (a_COMPENSATING : Addr) (a_COMPLETED : Addr) (a_COMPENSATED : Addr) (h0 : Heap) (n0 : Nat) (Z0 : n0 ≤ h0.size) (f1 : S_0 Z h0 (.ref a__VALUES)) (f2 : Arv Z h0 a__VALUES kcl_VALUES (.object "com/example/knotwork/knotwork/store/SagaState") (4 : Int32) [(.ref a_RUNNING), (.ref a_COMPENSATING), (.ref a_COMPLETED), (.ref a_COMPENSATED)] .null) (f3 : E_0 Z h0 a__VALUES) :
    MetFree l M_0 (head1 (Jvm.Cond.code M_0 prog_30_method_1_code 0 (some (.array (.object "com/example/knotwork/knotwork/store/SagaState"))) :: ws) R_1_1_4_14) (fun a U => a = #[] ∧ Z.Warmed39 U.vm ∧ U.heap = h0) (fun _ _ _ _ _ => True) (fun _ U o U' => ∃ v L, o = .returned v ∧ Q2_31 Z kcl_VALUES a_RUNNING a_COMPENSATING a_COMPLETED a_COMPENSATED h0 n0 v U'.heap L ∧ FrameEnd U o U' L R_1_1_4_14.cells R_1_1_4_14.slots) := by
  refine MetFree.of_bodySF (plainFor_of_name pn_com_example_knotwork_knotwork_store_SagaState) hisR ?_
  intro p e s m args below meth c s₁ Bd hml0 hP hK
  obtain ⟨rfl, hZ, hh⟩ := hP
  have hx := Bd.exec
  have hby := Bd.bytes
  have hml : c.maxLocals = 0 := hml0
  have hown : s.vm.findClass "com/example/knotwork/knotwork/store/SagaState" = some m.cls := findClass_of_methodNamed Bd.named
  have hnm := (name_of_methodNamed Bd.named Bd.method).1
  have X0 : Stand p l e R_1_1_4_14 s m #[] below meth c s₁ [] 0 0 := Stand.of_body Bd
  have e0 : s₁.heap = h0 := by rw [← hh, Bd.state]; rfl
  have N0 := Fr.nil n0
  obtain ⟨T1, X1, e1, st1⟩ := getS2 X0 hx hZ hown (host := "") (Or.inl (tw_7 hw)) Via.refl e0 f1 (g := (mkF m 0 #[] [])) rfl (hb hby d2_0)
  obtain ⟨T2, h2, X2, e2, E2, A2, B2, st2⟩ := cloneH X1 hx hZ hown (tw_9 hw) (tw_10 hw) (tw_14 hw) (tw_12 hw) (tw_13 hw) (tw_15 hw) e1 (Arv.arh f2) f3 (g := (mkF m 3 #[] [(.ref a__VALUES)])) rfl (by rw [hml]; rfl) rfl (hb hby d2_3) (by decide) (W := 0) (cap := 4) (by show 2 * 0 + _ ≤ _; exact Nat.le_of_eq rfl) (by decide) (by decide) (by decide) (by decide)
  obtain ⟨b29, g2⟩ : ∃ z, z = h0.size := ⟨_, rfl⟩
  rw [← g2] at A2 B2 st2
  have sz_b29 : h0.size ≤ b29 := Nat.le_trans (Nat.le_refl _) (Nat.le_of_eq g2.symm)
  have g_b29 : n0 ≤ b29 := Nat.le_trans Z0 sz_b29
  have KK2 : Keep h0 h2 [] := (Keep.refl h0 []).ext E2
  have V2 : Arv Z h2 b29 kcl_VALUES (.object "com/example/knotwork/knotwork/store/SagaState") (4 : Int32) [(.ref a_RUNNING), (.ref a_COMPENSATING), (.ref a_COMPLETED), (.ref a_COMPENSATED)] .null := A2
  obtain ⟨T3, X3, e3, st3⟩ := castY X2 hx hZ hown (tw_21 hw) e2 (Ins.self B2) (g := (mkF m 6 #[] [(.ref b29)])) rfl rfl (hb hby d2_6)
  obtain ⟨fs, hr, hrun, hended, hW, hsame⟩ := X3.leave (v := (some (.ref b29))) (fun h => by rw [Bd.returns] at h; cases h)
  refine ⟨_, _, castTop (ef2_ m ) ?_, hrun, hended, _, _, rfl, ?_, ⟨_, rfl⟩, hW, hsame.mono (by decide) (by decide)⟩
  · show Steps p.tables e below (s₁.setTop (mkF m 0 #[] [])) _
    refine st1 _ ?_
    show Steps p.tables e below (T1.setTop (mkF m 3 #[] [(.ref a__VALUES)])) _
    refine st2 _ ?_
    show Steps p.tables e below (T2.setTop (mkF m 6 #[] [(.ref b29)])) _
    refine st3 _ ?_
    show Steps p.tables e below (T3.setTop (mkF m 9 #[] [(.ref b29)])) _
    jvm_step X3.here [X3.here.top, hx, (hb hby d2_9), X3.method', Bd.returns, Value.isRef, FieldType.isReference]
    first | (intro acts; rw [hr _ acts rfl rfl rfl]) | rw [hr _ _ rfl rfl rfl]
    exact Steps.refl _
  · show Q2_31 Z kcl_VALUES a_RUNNING a_COMPENSATING a_COMPLETED a_COMPENSATED h0 n0 _ T3.heap _
    rw [e3]
    exact ⟨b29, rfl, N0, KK2, sz_b29, V2, B2⟩
theorem pd_0 : parseMethodDescriptor "()[Lcom/example/knotwork/knotwork/store/SagaState;" = some ⟨[], some (.array (.object "com/example/knotwork/knotwork/store/SagaState"))⟩ := by decide +kernel
theorem tw_5 {a0 : Array Value} {Z : State} (hw : ∀ d ∈ tables_1, d.before a0 Z = true) : (Jvm.Cond.static ({ cls := "com/example/knotwork/knotwork/store/SagaState", name := "values", desc := "()[Lcom/example/knotwork/knotwork/store/SagaState;" } : Jvm.MethodName)).before a0 Z = true := hw _ (List.mem_of_getElem? (i := 5) rfl)
theorem d1_3 : decode prog_30_method_6_code 3 = .ok (.astore_n 1, 1) := by decide +kernel
theorem d1_4 : decode prog_30_method_6_code 4 = .ok (.aload_n 1, 1) := by decide +kernel
theorem d1_5 : decode prog_30_method_6_code 5 = .ok (.arraylength, 1) := by decide +kernel
theorem d1_6 : decode prog_30_method_6_code 6 = .ok (.istore_n 2, 1) := by decide +kernel
theorem d1_7 : decode prog_30_method_6_code 7 = .ok (.iconst 0, 1) := by decide +kernel
theorem d1_8 : decode prog_30_method_6_code 8 = .ok (.istore_n 3, 1) := by decide +kernel
theorem d1_9 : decode prog_30_method_6_code 9 = .ok (.iload_n 3, 1) := by decide +kernel
theorem d1_10 : decode prog_30_method_6_code 10 = .ok (.iload_n 2, 1) := by decide +kernel
theorem d1_11 : decode prog_30_method_6_code 11 = .ok (.if_icmp .ge 26, 3) := by decide +kernel
theorem d1_14 : decode prog_30_method_6_code 14 = .ok (.aload_n 1, 1) := by decide +kernel
theorem d1_15 : decode prog_30_method_6_code 15 = .ok (.iload_n 3, 1) := by decide +kernel
theorem d1_16 : decode prog_30_method_6_code 16 = .ok (.aaload, 1) := by decide +kernel
theorem d1_17 : decode prog_30_method_6_code 17 = .ok (.astore 4, 2) := by decide +kernel
theorem d1_19 : decode prog_30_method_6_code 19 = .ok (.aload 4, 2) := by decide +kernel
theorem d1_21 : decode prog_30_method_6_code 21 = .ok (.getfield 35, 3) := by decide +kernel
theorem tw_23 {a0 : Array Value} {Z : State} (hw : ∀ d ∈ tables_1, d.before a0 Z = true) : (Jvm.Cond.fieldLink "com/example/knotwork/knotwork/store/SagaState" (35 : Nat) "com/example/knotwork/knotwork/store/SagaState" "code" "B").before a0 Z = true := hw _ (List.mem_of_getElem? (i := 23) rfl)
theorem d1_24 : decode prog_30_method_6_code 24 = .ok (.iload_n 0, 1) := by decide +kernel
theorem d1_25 : decode prog_30_method_6_code 25 = .ok (.if_icmp .ne 6, 3) := by decide +kernel
theorem d1_28 : decode prog_30_method_6_code 28 = .ok (.aload 4, 2) := by decide +kernel
theorem d1_30 : decode prog_30_method_6_code 30 = .ok (.areturn, 1) := by decide +kernel
abbrev R_2_1_4_25 : Room := { frames := 2, cells := 1, slots := 4, locals := 25 }
abbrev M_1 : MethodName := ⟨"com/example/knotwork/knotwork/store/SagaState", "ofCode", "(B)Lcom/example/knotwork/knotwork/store/SagaState;"⟩
theorem ef1_I (m : MethodId) (x0 : Int32) : entryFrame m #[(.int x0)] 5 = mkF m 0 #[.val (.int x0), .unset, .unset, .unset, .unset] [] := by first | (simp [entryFrame, mkF, argsToLocals, Value.category]; done) | rfl
def Q1_34 (Z : State) (a_RUNNING : Addr) (h0 : Heap) (n0 : Nat) (v : Option Value) (h : Heap) (L : List Loc) : Prop := v = (some (.ref a_RUNNING)) ∧ Fr n0 L ∧ Keep h0 h []
set_option maxRecDepth 65536 in
set_option maxHeartbeats 40000000 in
theorem rm1_33 (l : Launch) (Z : State) (a0 : Array Value) (hw : ∀ d ∈ tables_1, d.before a0 Z = true) (ws : List Jvm.Cond) (a__VALUES : Addr) (kcl_VALUES : ClassId) (a_RUNNING : Addr) (a_COMPENSATING : Addr) (a_COMPLETED : Addr) (a_COMPENSATED : Addr) (h0 : Heap) (n0 : Nat) (Z0 : n0 ≤ h0.size) (f1 : S_0 Z h0 (.ref a__VALUES)) (f2 : Arv Z h0 a__VALUES kcl_VALUES (.object "com/example/knotwork/knotwork/store/SagaState") (4 : Int32) [(.ref a_RUNNING), (.ref a_COMPENSATING), (.ref a_COMPLETED), (.ref a_COMPENSATED)] .null) (f3 : E_0 Z h0 a__VALUES) (f4 : F_0 Z h0 a_RUNNING (.int 1)) :
    MetFree l M_1 (head1 (Jvm.Cond.code M_1 prog_30_method_6_code 5 (some (.object "com/example/knotwork/knotwork/store/SagaState")) :: ws) R_2_1_4_25) (fun a U => a = #[(.int 1)] ∧ Z.Warmed39 U.vm ∧ U.heap = h0) (fun _ _ _ _ _ => True) (fun _ U o U' => ∃ v L, o = .returned v ∧ Q1_34 Z a_RUNNING h0 n0 v U'.heap L ∧ FrameEnd U o U' L R_2_1_4_25.cells R_2_1_4_25.slots) := by
  refine MetFree.of_bodySF (plainFor_of_name pn_com_example_knotwork_knotwork_store_SagaState) hisR ?_
  intro p e s m args below meth c s₁ Bd hml0 hP hK
  obtain ⟨rfl, hZ, hh⟩ := hP
  have hx := Bd.exec
  have hby := Bd.bytes
  have hml : c.maxLocals = 5 := hml0
  have hown : s.vm.findClass "com/example/knotwork/knotwork/store/SagaState" = some m.cls := findClass_of_methodNamed Bd.named
  have hnm := (name_of_methodNamed Bd.named Bd.method).1
  have X0 : Stand p l e R_2_1_4_25 s m #[(.int 1)] below meth c s₁ [] 0 0 := Stand.of_body Bd
  have e0 : s₁.heap = h0 := by rw [← hh, Bd.state]; rfl
  have N0 := Fr.nil n0
  -- pc 0: com/example/knotwork/knotwork/store/SagaState.values
  obtain ⟨_, _, ⟨T1, L1, k1, n1⟩, -, X1, ⟨Lc1, hQ1, l1, y1, z1⟩, st1⟩ := Jvm.LawKit.callS X0 hx (y := M_0) hown (mvT hZ (tw_4 hw)) (mvT hZ (tw_5 hw)) (mvT hZ (tw_2 hw)) (mvT hZ (tw_6 hw)) (by decide) (backOf (W := 0) (rm2_30 l Z a0 hw [] a__VALUES kcl_VALUES a_RUNNING a_COMPENSATING a_COMPLETED a_COMPENSATED h0 n0 Z0 f1 f2 f3) hZ (tw_6 hw) (tw_2 hw) (by decide) (by decide)) (g := (mkF m 0 #[.val (.int 1), .unset, .unset, .unset, .unset] [])) rfl (by rw [hml]; rfl) (argsL := []) (rest := []) (lenOf pd_0 rfl) rfl (by show 2 * 0 + _ ≤ _; exact Nat.le_of_eq rfl) (hb hby d1_0) (fun _ _ => ⟨rfl, e0, (by decide : 0 + 1 ≤ _), (by decide : 0 + 4 ≤ _)⟩)
  dsimp only [Pt.U, Pt.locs, Pt.cells, Pt.slots] at X1 l1 y1 z1 st1 hQ1
  subst l1 y1 z1
  obtain ⟨b32, rfl, Nq1, K1, le_b32, o1_0, o1_1⟩ := hQ1
  have N1 := Fr.app N0 Nq1
  have sz_b32 : h0.size ≤ b32 := Nat.le_trans (Nat.le_refl _) le_b32
  have g_b32 : n0 ≤ b32 := Nat.le_trans Z0 sz_b32
  have KK1 : Keep h0 T1.heap [] := (Keep.refl h0 []).trans K1 (fun x hx => nomatch hx)
  have va2 := o1_0
  obtain ⟨cl2, Ar2, -, S2, N2_, -, -⟩ := va2
  have va3 := o1_0
  obtain ⟨cl3, Ar3, -, S3, -, H3, -⟩ := va3
  have hin3 : ¬ ((0 : Int32) < 0 ∨ cl3.slots.size ≤ ((0 : Int32)).toNatClampNeg) := inb_of S3 ⟨by decide, by decide⟩
  have hat3 : cl3.slots[((0 : Int32)).toNatClampNeg]? = some (.ref a_RUNNING) := H3 _ (Nat.lt_of_not_le fun y => hin3 (Or.inr y))
  have u4 : F_0 Z T1.heap a_RUNNING (.int 1) := Fld.keep f4 K1 List.not_mem_nil
  obtain ⟨T5, X5, e5, st5⟩ := getF X1 hx hZ hown (host := "") (Or.inl (tw_23 hw)) Via.refl rfl u4 (g := (mkF m 21 #[.val (.int 1), .val (.ref b32), .val (.int 4), .val (.int 0), .val (.ref a_RUNNING)] [(.ref a_RUNNING)])) rfl rfl (hb hby d1_21)
  obtain ⟨fs, hr, hrun, hended, hW, hsame⟩ := X5.leave (v := (some (.ref a_RUNNING))) (fun h => by rw [Bd.returns] at h; cases h)
  refine ⟨_, _, castTop (ef1_I m (1 : Int32)) ?_, hrun, hended, _, _, rfl, ?_, ⟨_, rfl⟩, hW, hsame.mono (by decide) (by decide)⟩
  · show Steps p.tables e below (s₁.setTop (mkF m 0 #[.val (.int 1), .unset, .unset, .unset, .unset] [])) _
    refine st1 _ ?_
    refine XS.astoreN X1.here hx rfl (hb hby d1_3) rfl rfl (l' := #[.val (.int 1), .val (.ref b32), .unset, .unset, .unset]) rfl ?_
    refine XS.aloadN X1.here hx rfl (hb hby d1_4) rfl rfl ?_
    show Steps p.tables e below (T1.setTop (mkF m 5 #[.val (.int 1), .val (.ref b32), .unset, .unset, .unset] [(.ref b32)])) _
    refine X1.arraylength hx (by exact Ar2.1) (State.isArrayOf_alike hZ.alike Ar2.2.1) (g := (mkF m 5 #[.val (.int 1), .val (.ref b32), .unset, .unset, .unset] [(.ref b32)])) rfl rfl (hb hby d1_5) _ ?_
    rw [len_of S2 N2_]
    refine XS.istoreN X1.here hx rfl (hb hby d1_6) rfl (l' := #[.val (.int 1), .val (.ref b32), .val (.int 4), .unset, .unset]) rfl ?_
    refine XS.iconst X1.here hx rfl (hb hby d1_7) ?_
    refine XS.istoreN X1.here hx rfl (hb hby d1_8) rfl (l' := #[.val (.int 1), .val (.ref b32), .val (.int 4), .val (.int 0), .unset]) rfl ?_
    refine XS.iloadN X1.here hx rfl (hb hby d1_9) rfl ?_
    show Steps p.tables e below (T1.setTop (mkF m 10 #[.val (.int 1), .val (.ref b32), .val (.int 4), .val (.int 0), .unset] [(.int 0)])) _
    refine XS.iloadN X1.here hx rfl (hb hby d1_10) rfl ?_
    refine XS.icmpNo X1.here hx rfl (hb hby d1_11) rfl (by decide) ?_
    refine XS.aloadN X1.here hx rfl (hb hby d1_14) rfl rfl ?_
    refine XS.iloadN X1.here hx rfl (hb hby d1_15) rfl ?_
    show Steps p.tables e below (T1.setTop (mkF m 16 #[.val (.int 1), .val (.ref b32), .val (.int 4), .val (.int 0), .unset] [(.int 0), (.ref b32)])) _
    refine X1.aaload hx (j := (0 : Int32)) (v := (.ref a_RUNNING)) (by exact Ar3.1) (State.isArrayOf_alike hZ.alike Ar3.2.1) rfl Ar3.2.2 hin3 hat3 (g := (mkF m 16 #[.val (.int 1), .val (.ref b32), .val (.int 4), .val (.int 0), .unset] [(.int 0), (.ref b32)])) rfl rfl (hb hby d1_16) _ ?_
    refine XS.astore X1.here hx rfl (hb hby d1_17) rfl rfl (l' := #[.val (.int 1), .val (.ref b32), .val (.int 4), .val (.int 0), .val (.ref a_RUNNING)]) rfl ?_
    refine XS.aload X1.here hx rfl (hb hby d1_19) rfl rfl ?_
    show Steps p.tables e below (T1.setTop (mkF m 21 #[.val (.int 1), .val (.ref b32), .val (.int 4), .val (.int 0), .val (.ref a_RUNNING)] [(.ref a_RUNNING)])) _
    refine st5 _ ?_
    refine XS.iloadN X5.here hx rfl (hb hby d1_24) rfl ?_
    refine XS.icmpNo X5.here hx rfl (hb hby d1_25) rfl (by decide) ?_
    refine XS.aload X5.here hx rfl (hb hby d1_28) rfl rfl ?_
    show Steps p.tables e below (T5.setTop (mkF m 30 #[.val (.int 1), .val (.ref b32), .val (.int 4), .val (.int 0), .val (.ref a_RUNNING)] [(.ref a_RUNNING)])) _
    jvm_step X5.here [X5.here.top, hx, (hb hby d1_30), X5.method', Bd.returns, Value.isRef, FieldType.isReference]
    first | (intro acts; rw [hr _ acts rfl rfl rfl]) | rw [hr _ _ rfl rfl rfl]
    exact Steps.refl _
  · show Q1_34 Z a_RUNNING h0 n0 _ T5.heap _
    rw [e5]
    exact ⟨rfl, N1, KK1⟩
theorem pd_1 : parseMethodDescriptor "(B)Lcom/example/knotwork/knotwork/store/SagaState;" = some ⟨[.byte], some (.object "com/example/knotwork/knotwork/store/SagaState")⟩ := by decide +kernel
theorem tw_1 {a0 : Array Value} {Z : State} (hw : ∀ d ∈ tables_1, d.before a0 Z = true) : (Jvm.Cond.static ({ cls := "com/example/knotwork/knotwork/store/SagaState", name := "ofCode", desc := "(B)Lcom/example/knotwork/knotwork/store/SagaState;" } : Jvm.MethodName)).before a0 Z = true := hw _ (List.mem_of_getElem? (i := 1) rfl)
theorem tw_25 {a0 : Array Value} {Z : State} (hw : ∀ d ∈ tables_1, d.before a0 Z = true) : (Jvm.Cond.methodLink "com/example/knotwork/knotwork/store/SagaStateOfCodePinLaw" (26 : Nat) ({ cls := "com/example/knotwork/knotwork/store/SagaStateOfCodePinLaw", name := "expected", desc := "(I)Lcom/example/knotwork/knotwork/store/SagaState;" } : Jvm.MethodName)).before a0 Z = true := hw _ (List.mem_of_getElem? (i := 25) rfl)
theorem tw_28 {a0 : Array Value} {Z : State} (hw : ∀ d ∈ tables_1, d.before a0 Z = true) : (Jvm.Cond.code ({ cls := "com/example/knotwork/knotwork/store/SagaStateOfCodePinLaw", name := "expected", desc := "(I)Lcom/example/knotwork/knotwork/store/SagaState;" } : Jvm.MethodName) method_2_code (1 : Nat) (Option.some (Jvm.ClassFile.FieldType.object "com/example/knotwork/knotwork/store/SagaState"))).before a0 Z = true := hw _ (List.mem_of_getElem? (i := 28) rfl)
theorem d3_0 : decode method_2_code 0 = .ok (.iload_n 0, 1) := by decide +kernel
theorem d3_1 : decode method_2_code 1 = .ok (.iconst 1, 1) := by decide +kernel
theorem d3_2 : decode method_2_code 2 = .ok (.if_icmp .ne 7, 3) := by decide +kernel
theorem d3_5 : decode method_2_code 5 = .ok (.getstatic 7, 3) := by decide +kernel
theorem tw_29 {a0 : Array Value} {Z : State} (hw : ∀ d ∈ tables_1, d.before a0 Z = true) : (Jvm.Cond.fieldLink "com/example/knotwork/knotwork/store/SagaStateOfCodePinLaw" (7 : Nat) "com/example/knotwork/knotwork/store/SagaState" "RUNNING" "Lcom/example/knotwork/knotwork/store/SagaState;").before a0 Z = true := hw _ (List.mem_of_getElem? (i := 29) rfl)
theorem d3_8 : decode method_2_code 8 = .ok (.areturn, 1) := by decide +kernel
abbrev R_0_0_0_0 : Room := { frames := 0, cells := 0, slots := 0, locals := 0 }
abbrev M_2 : MethodName := ⟨"com/example/knotwork/knotwork/store/SagaStateOfCodePinLaw", "expected", "(I)Lcom/example/knotwork/knotwork/store/SagaState;"⟩
theorem ef3_I (m : MethodId) (x0 : Int32) : entryFrame m #[(.int x0)] 1 = mkF m 0 #[.val (.int x0)] [] := by first | (simp [entryFrame, mkF, argsToLocals, Value.category]; done) | rfl
theorem pn_com_example_knotwork_knotwork_store_SagaStateOfCodePinLaw : plainName "com/example/knotwork/knotwork/store/SagaStateOfCodePinLaw" = true := by first | (simp [plainName, overriddenIn]; done) | decide +kernel
set_option maxRecDepth 65536 in
set_option maxHeartbeats 40000000 in
theorem rm3_35 (l : Launch) (Z : State) (a0 : Array Value) (hw : ∀ d ∈ tables_1, d.before a0 Z = true) (ws : List Jvm.Cond) (a_RUNNING : Addr) (h0 : Heap) (n0 : Nat) (Z0 : n0 ≤ h0.size) (f1 : S_1 Z h0 (.ref a_RUNNING)) :
    MetFree l M_2 (head1 (Jvm.Cond.code M_2 method_2_code 1 (some (.object "com/example/knotwork/knotwork/store/SagaState")) :: ws) R_0_0_0_0) (fun a U => a = #[(.int 1)] ∧ Z.Warmed39 U.vm ∧ U.heap = h0) (fun _ _ _ _ _ => True) (fun _ U o U' => ∃ v L, o = .returned v ∧ QP (some (.ref a_RUNNING)) h0 n0 v U'.heap L ∧ FrameEnd U o U' L R_0_0_0_0.cells R_0_0_0_0.slots) := by
  refine MetFree.of_bodySF (plainFor_of_name pn_com_example_knotwork_knotwork_store_SagaStateOfCodePinLaw) hisR ?_
  intro p e s m args below meth c s₁ Bd hml0 hP hK
  obtain ⟨rfl, hZ, hh⟩ := hP
  have hx := Bd.exec
  have hby := Bd.bytes
  have hml : c.maxLocals = 1 := hml0
  have hown : s.vm.findClass "com/example/knotwork/knotwork/store/SagaStateOfCodePinLaw" = some m.cls := findClass_of_methodNamed Bd.named
  have hnm := (name_of_methodNamed Bd.named Bd.method).1
  have X0 : Stand p l e R_0_0_0_0 s m #[(.int 1)] below meth c s₁ [] 0 0 := Stand.of_body Bd
  have e0 : s₁.heap = h0 := by rw [← hh, Bd.state]; rfl
  have N0 := Fr.nil n0
  obtain ⟨T1, X1, e1, st1⟩ := getS2 X0 hx hZ hown (host := "") (Or.inl (tw_29 hw)) Via.refl e0 f1 (g := (mkF m 5 #[.val (.int 1)] [])) rfl (hb hby d3_5)
  obtain ⟨fs, hr, hrun, hended, hW, hsame⟩ := X1.leave (v := (some (.ref a_RUNNING))) (fun h => by rw [Bd.returns] at h; cases h)
  refine ⟨_, _, castTop (ef3_I m (1 : Int32)) ?_, hrun, hended, _, _, rfl, ?_, ⟨_, rfl⟩, hW, hsame.mono (by decide) (by decide)⟩
  · show Steps p.tables e below (s₁.setTop (mkF m 0 #[.val (.int 1)] [])) _
    refine XS.iloadN X0.here hx rfl (hb hby d3_0) rfl ?_
    refine XS.iconst X0.here hx rfl (hb hby d3_1) ?_
    refine XS.icmpNo X0.here hx rfl (hb hby d3_2) rfl (by decide) ?_
    show Steps p.tables e below (s₁.setTop (mkF m 5 #[.val (.int 1)] [])) _
    refine st1 _ ?_
    show Steps p.tables e below (T1.setTop (mkF m 8 #[.val (.int 1)] [(.ref a_RUNNING)])) _
    jvm_step X1.here [X1.here.top, hx, (hb hby d3_8), X1.method', Bd.returns, Value.isRef, FieldType.isReference]
    first | (intro acts; rw [hr _ acts rfl rfl rfl]) | rw [hr _ _ rfl rfl rfl]
    exact Steps.refl _
  · show QP (some (.ref a_RUNNING)) h0 n0 _ T1.heap _
    rw [e1]
    exact ⟨rfl, N0, rfl⟩
theorem tw_27 {a0 : Array Value} {Z : State} (hw : ∀ d ∈ tables_1, d.before a0 Z = true) : (Jvm.Cond.initialized "com/example/knotwork/knotwork/store/SagaStateOfCodePinLaw").before a0 Z = true := hw _ (List.mem_of_getElem? (i := 27) rfl)
theorem pd_2 : parseMethodDescriptor "(I)Lcom/example/knotwork/knotwork/store/SagaState;" = some ⟨[.int], some (.object "com/example/knotwork/knotwork/store/SagaState")⟩ := by decide +kernel
theorem tw_26 {a0 : Array Value} {Z : State} (hw : ∀ d ∈ tables_1, d.before a0 Z = true) : (Jvm.Cond.static ({ cls := "com/example/knotwork/knotwork/store/SagaStateOfCodePinLaw", name := "expected", desc := "(I)Lcom/example/knotwork/knotwork/store/SagaState;" } : Jvm.MethodName)).before a0 Z = true := hw _ (List.mem_of_getElem? (i := 26) rfl)
theorem tw_30 {a0 : Array Value} {Z : State} (hw : ∀ d ∈ tables_1, d.before a0 Z = true) : (Jvm.Cond.fieldLink "com/example/knotwork/knotwork/store/SagaStateOfCodePinLaw" (32 : Nat) "com/example/knotwork/knotwork/store/SagaState" "code" "B").before a0 Z = true := hw _ (List.mem_of_getElem? (i := 30) rfl)
theorem ef0_I (m : MethodId) (x0 : Int32) : entryFrame m #[(.int x0)] maxLocals = mkF m 0 #[.val (.int x0), .unset, .unset, .unset] [] := by first | (simp [entryFrame, mkF, argsToLocals, Value.category, maxLocals]; done) | rfl
set_option maxRecDepth 65536 in
set_option maxHeartbeats 40000000 in
theorem rm0_36 (l : Launch) (Z : State) (a0 : Array Value) (hw : ∀ d ∈ tables_1, d.before a0 Z = true) (ws : List Jvm.Cond) (p0 : Int32) (a__VALUES : Addr) (kcl_VALUES : ClassId) (a_RUNNING : Addr) (a_COMPENSATING : Addr) (a_COMPLETED : Addr) (a_COMPENSATED : Addr) (h0 : Heap) (n0 : Nat) (Z0 : n0 ≤ h0.size) (f1 : (p0 &&& (3 : Int32)) = (0 : Int32)) (f2 : S_0 Z h0 (.ref a__VALUES)) (f3 : Arv Z h0 a__VALUES kcl_VALUES (.object "com/example/knotwork/knotwork/store/SagaState") (4 : Int32) [(.ref a_RUNNING), (.ref a_COMPENSATING), (.ref a_COMPLETED), (.ref a_COMPENSATED)] .null) (f4 : E_0 Z h0 a__VALUES) (f5 : F_0 Z h0 a_RUNNING (.int 1)) (f6 : S_1 Z h0 (.ref a_RUNNING)) :
    MetFree l x (head1 (Jvm.Cond.code x code maxLocals ret :: ws) room_1) (fun a U => a = #[(.int p0)] ∧ Z.Warmed39 U.vm ∧ U.heap = h0) (fun _ _ _ _ _ => True) (fun _ U o U' => ∃ v L, o = .returned v ∧ QT n0 v U'.heap L ∧ FrameEnd U o U' L room_1.cells room_1.slots) := by
  refine MetFree.of_bodySF (plainFor_of_name pn_com_example_knotwork_knotwork_store_SagaStateOfCodePinLaw) hisR ?_
  intro p e s m args below meth c s₁ Bd hml0 hP hK
  obtain ⟨rfl, hZ, hh⟩ := hP
  have hx := Bd.exec
  have hby := Bd.bytes
  have hml : c.maxLocals = 4 := hml0
  have hown : s.vm.findClass "com/example/knotwork/knotwork/store/SagaStateOfCodePinLaw" = some m.cls := findClass_of_methodNamed Bd.named
  have hnm := (name_of_methodNamed Bd.named Bd.method).1
  have X0 : Stand p l e room_1 s m #[(.int p0)] below meth c s₁ [] 0 0 := Stand.of_body Bd
  have e0 : s₁.heap = h0 := by rw [← hh, Bd.state]; rfl
  have N0 := Fr.nil n0
  -- pc 10: com/example/knotwork/knotwork/store/SagaState.ofCode
  obtain ⟨_, _, ⟨T1, L1, k1, n1⟩, -, X1, ⟨Lc1, hQ1, l1, y1, z1⟩, st1⟩ := Jvm.LawKit.callS X0 hx (y := M_1) hown (mvT hZ (tw_0 hw)) (mvT hZ (tw_1 hw)) (mvT hZ (tw_2 hw)) (mvT hZ (tw_3 hw)) (by decide) (backOf (W := 0) (rm1_33 l Z a0 hw [] a__VALUES kcl_VALUES a_RUNNING a_COMPENSATING a_COMPLETED a_COMPENSATED h0 n0 Z0 f2 f3 f4 f5) hZ (tw_3 hw) (tw_2 hw) (by decide) (by decide)) (g := (mkF m 10 #[.val (.int p0), .val (.int 1), .val (.int 1), .unset] [(.int 1)])) rfl (by rw [hml]; rfl) (argsL := [(.int 1)]) (rest := []) (lenOf pd_1 rfl) rfl (by show 2 * 0 + _ ≤ _; exact Nat.le_of_eq rfl) (hb hby at_10) (fun _ _ => ⟨rfl, e0, (by decide : 0 + 1 ≤ _), (by decide : 0 + 4 ≤ _)⟩)
  dsimp only [Pt.U, Pt.locs, Pt.cells, Pt.slots] at X1 l1 y1 z1 st1 hQ1
  subst l1 y1 z1
  obtain ⟨rfl, Nq1, K1⟩ := hQ1
  have N1 := Fr.app N0 Nq1
  have KK1 : Keep h0 T1.heap [] := (Keep.refl h0 []).trans K1 (fun x hx => nomatch hx)
  -- pc 16: com/example/knotwork/knotwork/store/SagaStateOfCodePinLaw.expected
  have u2 : S_1 Z T1.heap (.ref a_RUNNING) := own_sta_keep f6 K1 (fun _ q => nomatch q)
  obtain ⟨_, _, ⟨T3, L3, k3, n3⟩, -, X3, ⟨Lc3, hQ3, l3, y3, z3⟩, st3⟩ := Jvm.LawKit.callS X1 hx (y := M_2) hown (mvT hZ (tw_25 hw)) (mvT hZ (tw_26 hw)) (mvT hZ (tw_27 hw)) (mvT hZ (tw_28 hw)) (by decide) (backOf (W := 1) (rm3_35 l Z a0 hw [] a_RUNNING T1.heap n0 (Nat.le_trans Z0 KK1.1) u2) hZ (tw_28 hw) (tw_27 hw) (by decide) (by decide)) (g := (mkF m 16 #[.val (.int p0), .val (.int 1), .val (.int 1), .val (.ref a_RUNNING)] [(.int 1), (.ref a_RUNNING)])) rfl (by rw [hml]; rfl) (argsL := [(.int 1)]) (rest := [(.ref a_RUNNING)]) (lenOf pd_2 rfl) rfl (by show 2 * 0 + _ ≤ _; exact Nat.le_of_eq rfl) (hb hby at_16) (fun _ _ => ⟨rfl, rfl, (by decide : 1 + 0 ≤ _), (by decide : 4 + 0 ≤ _)⟩)
  dsimp only [Pt.U, Pt.locs, Pt.cells, Pt.slots] at X3 l3 y3 z3 st3 hQ3
  subst l3 y3 z3
  obtain ⟨rfl, Nq3, e3⟩ := hQ3
  have N3 := Fr.app N1 Nq3
  have u4 : F_0 Z T1.heap a_RUNNING (.int 1) := Fld.keep f5 K1 List.not_mem_nil
  obtain ⟨T5, X5, e5, st5⟩ := getF X3 hx hZ hown (host := "") (Or.inl (tw_30 hw)) Via.refl e3 u4 (g := (mkF m 23 #[.val (.int p0), .val (.int 1), .val (.int 1), .val (.ref a_RUNNING)] [(.ref a_RUNNING)])) rfl rfl (hb hby at_23)
  obtain ⟨fs, hr, hrun, hended, hW, hsame⟩ := X5.leave (v := (some (.int 1))) (fun h => by rw [Bd.returns] at h; cases h)
  refine ⟨_, _, castTop (ef0_I m p0) ?_, hrun, hended, _, _, rfl, ?_, ⟨_, rfl⟩, hW, hsame.mono (by decide) (by decide)⟩
  · show Steps p.tables e below (s₁.setTop (mkF m 0 #[.val (.int p0), .unset, .unset, .unset] [])) _
    refine XS.iloadN X0.here hx rfl (hb hby at_0) rfl ?_
    refine XS.iconst X0.here hx rfl (hb hby at_1) ?_
    show Steps p.tables e below (s₁.setTop (mkF m 2 #[.val (.int p0), .unset, .unset, .unset] [(.int 3), (.int p0)])) _
    refine XS.iand X0.here hx rfl (hb hby at_2) rfl ?_
    show Steps p.tables e below (s₁.setTop (mkF m 3 #[.val (.int p0), .unset, .unset, .unset] [(.int (p0 &&& (3 : Int32)))])) _
    rw [f1]
    refine XS.iconst X0.here hx rfl (hb hby at_3) ?_
    show Steps p.tables e below (s₁.setTop (mkF m 4 #[.val (.int p0), .unset, .unset, .unset] [(.int 1), (.int 0)])) _
    refine XS.iadd X0.here hx rfl (hb hby at_4) rfl ?_
    show Steps p.tables e below (s₁.setTop (mkF m 5 #[.val (.int p0), .unset, .unset, .unset] [(.int ((0 : Int32) + (1 : Int32)))])) _
    rw [show ((0 : Int32) + (1 : Int32)) = (1 : Int32) from by decide]
    refine XS.istoreN X0.here hx rfl (hb hby at_5) rfl (l' := #[.val (.int p0), .val (.int 1), .unset, .unset]) rfl ?_
    refine XS.iloadN X0.here hx rfl (hb hby at_6) rfl ?_
    show Steps p.tables e below (s₁.setTop (mkF m 7 #[.val (.int p0), .val (.int 1), .unset, .unset] [(.int 1)])) _
    refine XS.i2b X0.here hx rfl (hb hby at_7) rfl ?_
    show Steps p.tables e below (s₁.setTop (mkF m 8 #[.val (.int p0), .val (.int 1), .unset, .unset] [(.int ((1 : Int32).toInt8.toInt32))])) _
    rw [show ((1 : Int32).toInt8.toInt32) = (1 : Int32) from by decide]
    refine XS.istoreN X0.here hx rfl (hb hby at_8) rfl (l' := #[.val (.int p0), .val (.int 1), .val (.int 1), .unset]) rfl ?_
    refine XS.iloadN X0.here hx rfl (hb hby at_9) rfl ?_
    show Steps p.tables e below (s₁.setTop (mkF m 10 #[.val (.int p0), .val (.int 1), .val (.int 1), .unset] [(.int 1)])) _
    refine st1 _ ?_
    refine XS.astoreN X1.here hx rfl (hb hby at_13) rfl rfl (l' := #[.val (.int p0), .val (.int 1), .val (.int 1), .val (.ref a_RUNNING)]) rfl ?_
    refine XS.aloadN X1.here hx rfl (hb hby at_14) rfl rfl ?_
    refine XS.iloadN X1.here hx rfl (hb hby at_15) rfl ?_
    show Steps p.tables e below (T1.setTop (mkF m 16 #[.val (.int p0), .val (.int 1), .val (.int 1), .val (.ref a_RUNNING)] [(.int 1), (.ref a_RUNNING)])) _
    refine st3 _ ?_
    show Steps p.tables e below (T3.setTop (mkF m 19 #[.val (.int p0), .val (.int 1), .val (.int 1), .val (.ref a_RUNNING)] [(.ref a_RUNNING), (.ref a_RUNNING)])) _
    refine Jvm.RoadKit.acmp (g := (mkF m 19 #[.val (.int p0), .val (.int 1), .val (.int 1), .val (.ref a_RUNNING)] [(.ref a_RUNNING), (.ref a_RUNNING)])) X3 hx rfl rfl rfl (pc0 := 19) (pc' := 22) (same := true) rfl (hb hby at_19) rfl (decide_eq_true rfl) (by decide) (by decide) ?_
    refine XS.aloadN X3.here hx rfl (hb hby at_22) rfl rfl ?_
    show Steps p.tables e below (T3.setTop (mkF m 23 #[.val (.int p0), .val (.int 1), .val (.int 1), .val (.ref a_RUNNING)] [(.ref a_RUNNING)])) _
    refine st5 _ ?_
    refine XS.iloadN X5.here hx rfl (hb hby at_26) rfl ?_
    refine XS.icmpNo X5.here hx rfl (hb hby at_27) rfl (by decide) ?_
    refine XS.iconst X5.here hx rfl (hb hby at_30) ?_
    refine XS.goto X5.here hx rfl (pc0 := 31) (pc' := 35) rfl (hb hby at_31) (by decide) (by decide) ?_
    show Steps p.tables e below (T5.setTop (mkF m 35 #[.val (.int p0), .val (.int 1), .val (.int 1), .val (.ref a_RUNNING)] [(.int 1)])) _
    exact retN X5 hx (t := .boolean) Bd.returns (by simp) (hb hby at_35) hr
  · show QT n0 _ T5.heap _
    rw [e5]
    exact ⟨rfl, N3⟩
theorem d1_31 : decode prog_30_method_6_code 31 = .ok (.iinc 3 1, 3) := by decide +kernel
theorem d1_34 : decode prog_30_method_6_code 34 = .ok (.goto (-25), 3) := by decide +kernel
def Q1_39 (Z : State) (a_COMPENSATING : Addr) (h0 : Heap) (n0 : Nat) (v : Option Value) (h : Heap) (L : List Loc) : Prop := v = (some (.ref a_COMPENSATING)) ∧ Fr n0 L ∧ Keep h0 h []
set_option maxRecDepth 65536 in
set_option maxHeartbeats 40000000 in
theorem rm1_38 (l : Launch) (Z : State) (a0 : Array Value) (hw : ∀ d ∈ tables_1, d.before a0 Z = true) (ws : List Jvm.Cond) (a__VALUES : Addr) (kcl_VALUES : ClassId) (a_RUNNING : Addr) (a_COMPENSATING : Addr) (a_COMPLETED : Addr) (a_COMPENSATED : Addr) (h0 : Heap) (n0 : Nat) (Z0 : n0 ≤ h0.size) (f1 : S_0 Z h0 (.ref a__VALUES)) (f2 : Arv Z h0 a__VALUES kcl_VALUES (.object "com/example/knotwork/knotwork/store/SagaState") (4 : Int32) [(.ref a_RUNNING), (.ref a_COMPENSATING), (.ref a_COMPLETED), (.ref a_COMPENSATED)] .null) (f3 : E_0 Z h0 a__VALUES) (f4 : F_0 Z h0 a_RUNNING (.int 1)) (f5 : F_0 Z h0 a_COMPENSATING (.int 2)) :
    MetFree l M_1 (head1 (Jvm.Cond.code M_1 prog_30_method_6_code 5 (some (.object "com/example/knotwork/knotwork/store/SagaState")) :: ws) R_2_1_4_25) (fun a U => a = #[(.int 2)] ∧ Z.Warmed39 U.vm ∧ U.heap = h0) (fun _ _ _ _ _ => True) (fun _ U o U' => ∃ v L, o = .returned v ∧ Q1_39 Z a_COMPENSATING h0 n0 v U'.heap L ∧ FrameEnd U o U' L R_2_1_4_25.cells R_2_1_4_25.slots) := by
  refine MetFree.of_bodySF (plainFor_of_name pn_com_example_knotwork_knotwork_store_SagaState) hisR ?_
  intro p e s m args below meth c s₁ Bd hml0 hP hK
  obtain ⟨rfl, hZ, hh⟩ := hP
  have hx := Bd.exec
  have hby := Bd.bytes
  have hml : c.maxLocals = 5 := hml0
  have hown : s.vm.findClass "com/example/knotwork/knotwork/store/SagaState" = some m.cls := findClass_of_methodNamed Bd.named
  have hnm := (name_of_methodNamed Bd.named Bd.method).1
  have X0 : Stand p l e R_2_1_4_25 s m #[(.int 2)] below meth c s₁ [] 0 0 := Stand.of_body Bd
  have e0 : s₁.heap = h0 := by rw [← hh, Bd.state]; rfl
  have N0 := Fr.nil n0
  -- pc 0: com/example/knotwork/knotwork/store/SagaState.values
  obtain ⟨_, _, ⟨T1, L1, k1, n1⟩, -, X1, ⟨Lc1, hQ1, l1, y1, z1⟩, st1⟩ := Jvm.LawKit.callS X0 hx (y := M_0) hown (mvT hZ (tw_4 hw)) (mvT hZ (tw_5 hw)) (mvT hZ (tw_2 hw)) (mvT hZ (tw_6 hw)) (by decide) (backOf (W := 0) (rm2_30 l Z a0 hw [] a__VALUES kcl_VALUES a_RUNNING a_COMPENSATING a_COMPLETED a_COMPENSATED h0 n0 Z0 f1 f2 f3) hZ (tw_6 hw) (tw_2 hw) (by decide) (by decide)) (g := (mkF m 0 #[.val (.int 2), .unset, .unset, .unset, .unset] [])) rfl (by rw [hml]; rfl) (argsL := []) (rest := []) (lenOf pd_0 rfl) rfl (by show 2 * 0 + _ ≤ _; exact Nat.le_of_eq rfl) (hb hby d1_0) (fun _ _ => ⟨rfl, e0, (by decide : 0 + 1 ≤ _), (by decide : 0 + 4 ≤ _)⟩)
  dsimp only [Pt.U, Pt.locs, Pt.cells, Pt.slots] at X1 l1 y1 z1 st1 hQ1
  subst l1 y1 z1
  obtain ⟨b37, rfl, Nq1, K1, le_b37, o1_0, o1_1⟩ := hQ1
  have N1 := Fr.app N0 Nq1
  have sz_b37 : h0.size ≤ b37 := Nat.le_trans (Nat.le_refl _) le_b37
  have g_b37 : n0 ≤ b37 := Nat.le_trans Z0 sz_b37
  have KK1 : Keep h0 T1.heap [] := (Keep.refl h0 []).trans K1 (fun x hx => nomatch hx)
  have va2 := o1_0
  obtain ⟨cl2, Ar2, -, S2, N2_, -, -⟩ := va2
  have va3 := o1_0
  obtain ⟨cl3, Ar3, -, S3, -, H3, -⟩ := va3
  have hin3 : ¬ ((0 : Int32) < 0 ∨ cl3.slots.size ≤ ((0 : Int32)).toNatClampNeg) := inb_of S3 ⟨by decide, by decide⟩
  have hat3 : cl3.slots[((0 : Int32)).toNatClampNeg]? = some (.ref a_RUNNING) := H3 _ (Nat.lt_of_not_le fun y => hin3 (Or.inr y))
  have u4 : F_0 Z T1.heap a_RUNNING (.int 1) := Fld.keep f4 K1 List.not_mem_nil
  obtain ⟨T5, X5, e5, st5⟩ := getF X1 hx hZ hown (host := "") (Or.inl (tw_23 hw)) Via.refl rfl u4 (g := (mkF m 21 #[.val (.int 2), .val (.ref b37), .val (.int 4), .val (.int 0), .val (.ref a_RUNNING)] [(.ref a_RUNNING)])) rfl rfl (hb hby d1_21)
  have va6 := o1_0
  obtain ⟨cl6, Ar6, -, S6, -, H6, -⟩ := va6
  have hin6 : ¬ ((1 : Int32) < 0 ∨ cl6.slots.size ≤ ((1 : Int32)).toNatClampNeg) := inb_of S6 ⟨by decide, by decide⟩
  have hat6 : cl6.slots[((1 : Int32)).toNatClampNeg]? = some (.ref a_COMPENSATING) := H6 _ (Nat.lt_of_not_le fun y => hin6 (Or.inr y))
  have u7 : F_0 Z T1.heap a_COMPENSATING (.int 2) := Fld.keep f5 K1 List.not_mem_nil
  obtain ⟨T8, X8, e8, st8⟩ := getF X5 hx hZ hown (host := "") (Or.inl (tw_23 hw)) Via.refl e5 u7 (g := (mkF m 21 #[.val (.int 2), .val (.ref b37), .val (.int 4), .val (.int 1), .val (.ref a_COMPENSATING)] [(.ref a_COMPENSATING)])) rfl rfl (hb hby d1_21)
  obtain ⟨fs, hr, hrun, hended, hW, hsame⟩ := X8.leave (v := (some (.ref a_COMPENSATING))) (fun h => by rw [Bd.returns] at h; cases h)
  refine ⟨_, _, castTop (ef1_I m (2 : Int32)) ?_, hrun, hended, _, _, rfl, ?_, ⟨_, rfl⟩, hW, hsame.mono (by decide) (by decide)⟩
  · show Steps p.tables e below (s₁.setTop (mkF m 0 #[.val (.int 2), .unset, .unset, .unset, .unset] [])) _
    refine st1 _ ?_
    refine XS.astoreN X1.here hx rfl (hb hby d1_3) rfl rfl (l' := #[.val (.int 2), .val (.ref b37), .unset, .unset, .unset]) rfl ?_
    refine XS.aloadN X1.here hx rfl (hb hby d1_4) rfl rfl ?_
    show Steps p.tables e below (T1.setTop (mkF m 5 #[.val (.int 2), .val (.ref b37), .unset, .unset, .unset] [(.ref b37)])) _
    refine X1.arraylength hx (by exact Ar2.1) (State.isArrayOf_alike hZ.alike Ar2.2.1) (g := (mkF m 5 #[.val (.int 2), .val (.ref b37), .unset, .unset, .unset] [(.ref b37)])) rfl rfl (hb hby d1_5) _ ?_
    rw [len_of S2 N2_]
    refine XS.istoreN X1.here hx rfl (hb hby d1_6) rfl (l' := #[.val (.int 2), .val (.ref b37), .val (.int 4), .unset, .unset]) rfl ?_
    refine XS.iconst X1.here hx rfl (hb hby d1_7) ?_
    refine XS.istoreN X1.here hx rfl (hb hby d1_8) rfl (l' := #[.val (.int 2), .val (.ref b37), .val (.int 4), .val (.int 0), .unset]) rfl ?_
    refine XS.iloadN X1.here hx rfl (hb hby d1_9) rfl ?_
    show Steps p.tables e below (T1.setTop (mkF m 10 #[.val (.int 2), .val (.ref b37), .val (.int 4), .val (.int 0), .unset] [(.int 0)])) _
    refine XS.iloadN X1.here hx rfl (hb hby d1_10) rfl ?_
    refine XS.icmpNo X1.here hx rfl (hb hby d1_11) rfl (by decide) ?_
    refine XS.aloadN X1.here hx rfl (hb hby d1_14) rfl rfl ?_
    refine XS.iloadN X1.here hx rfl (hb hby d1_15) rfl ?_
    show Steps p.tables e below (T1.setTop (mkF m 16 #[.val (.int 2), .val (.ref b37), .val (.int 4), .val (.int 0), .unset] [(.int 0), (.ref b37)])) _
    refine X1.aaload hx (j := (0 : Int32)) (v := (.ref a_RUNNING)) (by exact Ar3.1) (State.isArrayOf_alike hZ.alike Ar3.2.1) rfl Ar3.2.2 hin3 hat3 (g := (mkF m 16 #[.val (.int 2), .val (.ref b37), .val (.int 4), .val (.int 0), .unset] [(.int 0), (.ref b37)])) rfl rfl (hb hby d1_16) _ ?_
    refine XS.astore X1.here hx rfl (hb hby d1_17) rfl rfl (l' := #[.val (.int 2), .val (.ref b37), .val (.int 4), .val (.int 0), .val (.ref a_RUNNING)]) rfl ?_
    refine XS.aload X1.here hx rfl (hb hby d1_19) rfl rfl ?_
    show Steps p.tables e below (T1.setTop (mkF m 21 #[.val (.int 2), .val (.ref b37), .val (.int 4), .val (.int 0), .val (.ref a_RUNNING)] [(.ref a_RUNNING)])) _
    refine st5 _ ?_
    refine XS.iloadN X5.here hx rfl (hb hby d1_24) rfl ?_
    refine XS.icmpYes X5.here hx rfl (pc0 := 25) (pc' := 31) rfl (hb hby d1_25) rfl (by decide) (by decide) (by decide) ?_
    show Steps p.tables e below (T5.setTop (mkF m 31 #[.val (.int 2), .val (.ref b37), .val (.int 4), .val (.int 0), .val (.ref a_RUNNING)] [])) _
    refine XS.iinc X5.here hx rfl (hb hby d1_31) rfl (l' := #[.val (.int 2), .val (.ref b37), .val (.int 4), .val (.int ((0 : Int32) + (1 : Int32))), .val (.ref a_RUNNING)]) rfl ?_
    show Steps p.tables e below (T5.setTop (mkF m 34 #[.val (.int 2), .val (.ref b37), .val (.int 4), .val (.int ((0 : Int32) + (1 : Int32))), .val (.ref a_RUNNING)] [])) _
    rw [show ((0 : Int32) + (1 : Int32)) = (1 : Int32) from by decide]
    refine XS.goto X5.here hx rfl (pc0 := 34) (pc' := 9) rfl (hb hby d1_34) (by decide) (by decide) ?_
    refine XS.iloadN X5.here hx rfl (hb hby d1_9) rfl ?_
    refine XS.iloadN X5.here hx rfl (hb hby d1_10) rfl ?_
    refine XS.icmpNo X5.here hx rfl (hb hby d1_11) rfl (by decide) ?_
    show Steps p.tables e below (T5.setTop (mkF m 14 #[.val (.int 2), .val (.ref b37), .val (.int 4), .val (.int 1), .val (.ref a_RUNNING)] [])) _
    refine XS.aloadN X5.here hx rfl (hb hby d1_14) rfl rfl ?_
    refine XS.iloadN X5.here hx rfl (hb hby d1_15) rfl ?_
    show Steps p.tables e below (T5.setTop (mkF m 16 #[.val (.int 2), .val (.ref b37), .val (.int 4), .val (.int 1), .val (.ref a_RUNNING)] [(.int 1), (.ref b37)])) _
    refine X5.aaload hx (j := (1 : Int32)) (v := (.ref a_COMPENSATING)) (by rw [e5]; exact Ar6.1) (State.isArrayOf_alike hZ.alike Ar6.2.1) rfl Ar6.2.2 hin6 hat6 (g := (mkF m 16 #[.val (.int 2), .val (.ref b37), .val (.int 4), .val (.int 1), .val (.ref a_RUNNING)] [(.int 1), (.ref b37)])) rfl rfl (hb hby d1_16) _ ?_
    refine XS.astore X5.here hx rfl (hb hby d1_17) rfl rfl (l' := #[.val (.int 2), .val (.ref b37), .val (.int 4), .val (.int 1), .val (.ref a_COMPENSATING)]) rfl ?_
    refine XS.aload X5.here hx rfl (hb hby d1_19) rfl rfl ?_
    show Steps p.tables e below (T5.setTop (mkF m 21 #[.val (.int 2), .val (.ref b37), .val (.int 4), .val (.int 1), .val (.ref a_COMPENSATING)] [(.ref a_COMPENSATING)])) _
    refine st8 _ ?_
    refine XS.iloadN X8.here hx rfl (hb hby d1_24) rfl ?_
    refine XS.icmpNo X8.here hx rfl (hb hby d1_25) rfl (by decide) ?_
    refine XS.aload X8.here hx rfl (hb hby d1_28) rfl rfl ?_
    show Steps p.tables e below (T8.setTop (mkF m 30 #[.val (.int 2), .val (.ref b37), .val (.int 4), .val (.int 1), .val (.ref a_COMPENSATING)] [(.ref a_COMPENSATING)])) _
    jvm_step X8.here [X8.here.top, hx, (hb hby d1_30), X8.method', Bd.returns, Value.isRef, FieldType.isReference]
    first | (intro acts; rw [hr _ acts rfl rfl rfl]) | rw [hr _ _ rfl rfl rfl]
    exact Steps.refl _
  · show Q1_39 Z a_COMPENSATING h0 n0 _ T8.heap _
    rw [e8]
    exact ⟨rfl, N1, KK1⟩
theorem d3_9 : decode method_2_code 9 = .ok (.iload_n 0, 1) := by decide +kernel
theorem d3_10 : decode method_2_code 10 = .ok (.iconst 2, 1) := by decide +kernel
theorem d3_11 : decode method_2_code 11 = .ok (.if_icmp .ne 7, 3) := by decide +kernel
theorem d3_14 : decode method_2_code 14 = .ok (.getstatic 13, 3) := by decide +kernel
theorem tw_33 {a0 : Array Value} {Z : State} (hw : ∀ d ∈ tables_1, d.before a0 Z = true) : (Jvm.Cond.fieldLink "com/example/knotwork/knotwork/store/SagaStateOfCodePinLaw" (13 : Nat) "com/example/knotwork/knotwork/store/SagaState" "COMPENSATING" "Lcom/example/knotwork/knotwork/store/SagaState;").before a0 Z = true := hw _ (List.mem_of_getElem? (i := 33) rfl)
theorem d3_17 : decode method_2_code 17 = .ok (.areturn, 1) := by decide +kernel
set_option maxRecDepth 65536 in
set_option maxHeartbeats 40000000 in
theorem rm3_40 (l : Launch) (Z : State) (a0 : Array Value) (hw : ∀ d ∈ tables_1, d.before a0 Z = true) (ws : List Jvm.Cond) (a_COMPENSATING : Addr) (h0 : Heap) (n0 : Nat) (Z0 : n0 ≤ h0.size) (f1 : S_2 Z h0 (.ref a_COMPENSATING)) :
    MetFree l M_2 (head1 (Jvm.Cond.code M_2 method_2_code 1 (some (.object "com/example/knotwork/knotwork/store/SagaState")) :: ws) R_0_0_0_0) (fun a U => a = #[(.int 2)] ∧ Z.Warmed39 U.vm ∧ U.heap = h0) (fun _ _ _ _ _ => True) (fun _ U o U' => ∃ v L, o = .returned v ∧ QP (some (.ref a_COMPENSATING)) h0 n0 v U'.heap L ∧ FrameEnd U o U' L R_0_0_0_0.cells R_0_0_0_0.slots) := by
  refine MetFree.of_bodySF (plainFor_of_name pn_com_example_knotwork_knotwork_store_SagaStateOfCodePinLaw) hisR ?_
  intro p e s m args below meth c s₁ Bd hml0 hP hK
  obtain ⟨rfl, hZ, hh⟩ := hP
  have hx := Bd.exec
  have hby := Bd.bytes
  have hml : c.maxLocals = 1 := hml0
  have hown : s.vm.findClass "com/example/knotwork/knotwork/store/SagaStateOfCodePinLaw" = some m.cls := findClass_of_methodNamed Bd.named
  have hnm := (name_of_methodNamed Bd.named Bd.method).1
  have X0 : Stand p l e R_0_0_0_0 s m #[(.int 2)] below meth c s₁ [] 0 0 := Stand.of_body Bd
  have e0 : s₁.heap = h0 := by rw [← hh, Bd.state]; rfl
  have N0 := Fr.nil n0
  obtain ⟨T1, X1, e1, st1⟩ := getS2 X0 hx hZ hown (host := "") (Or.inl (tw_33 hw)) Via.refl e0 f1 (g := (mkF m 14 #[.val (.int 2)] [])) rfl (hb hby d3_14)
  obtain ⟨fs, hr, hrun, hended, hW, hsame⟩ := X1.leave (v := (some (.ref a_COMPENSATING))) (fun h => by rw [Bd.returns] at h; cases h)
  refine ⟨_, _, castTop (ef3_I m (2 : Int32)) ?_, hrun, hended, _, _, rfl, ?_, ⟨_, rfl⟩, hW, hsame.mono (by decide) (by decide)⟩
  · show Steps p.tables e below (s₁.setTop (mkF m 0 #[.val (.int 2)] [])) _
    refine XS.iloadN X0.here hx rfl (hb hby d3_0) rfl ?_
    refine XS.iconst X0.here hx rfl (hb hby d3_1) ?_
    refine XS.icmpYes X0.here hx rfl (pc0 := 2) (pc' := 9) rfl (hb hby d3_2) rfl (by decide) (by decide) (by decide) ?_
    refine XS.iloadN X0.here hx rfl (hb hby d3_9) rfl ?_
    refine XS.iconst X0.here hx rfl (hb hby d3_10) ?_
    show Steps p.tables e below (s₁.setTop (mkF m 11 #[.val (.int 2)] [(.int 2), (.int 2)])) _
    refine XS.icmpNo X0.here hx rfl (hb hby d3_11) rfl (by decide) ?_
    show Steps p.tables e below (s₁.setTop (mkF m 14 #[.val (.int 2)] [])) _
    refine st1 _ ?_
    show Steps p.tables e below (T1.setTop (mkF m 17 #[.val (.int 2)] [(.ref a_COMPENSATING)])) _
    jvm_step X1.here [X1.here.top, hx, (hb hby d3_17), X1.method', Bd.returns, Value.isRef, FieldType.isReference]
    first | (intro acts; rw [hr _ acts rfl rfl rfl]) | rw [hr _ _ rfl rfl rfl]
    exact Steps.refl _
  · show QP (some (.ref a_COMPENSATING)) h0 n0 _ T1.heap _
    rw [e1]
    exact ⟨rfl, N0, rfl⟩
set_option maxRecDepth 65536 in
set_option maxHeartbeats 40000000 in
theorem rm0_41 (l : Launch) (Z : State) (a0 : Array Value) (hw : ∀ d ∈ tables_1, d.before a0 Z = true) (ws : List Jvm.Cond) (p0 : Int32) (a__VALUES : Addr) (kcl_VALUES : ClassId) (a_RUNNING : Addr) (a_COMPENSATING : Addr) (a_COMPLETED : Addr) (a_COMPENSATED : Addr) (h0 : Heap) (n0 : Nat) (Z0 : n0 ≤ h0.size) (f1 : (p0 &&& (3 : Int32)) = (1 : Int32)) (f2 : S_0 Z h0 (.ref a__VALUES)) (f3 : Arv Z h0 a__VALUES kcl_VALUES (.object "com/example/knotwork/knotwork/store/SagaState") (4 : Int32) [(.ref a_RUNNING), (.ref a_COMPENSATING), (.ref a_COMPLETED), (.ref a_COMPENSATED)] .null) (f4 : E_0 Z h0 a__VALUES) (f5 : F_0 Z h0 a_RUNNING (.int 1)) (f6 : F_0 Z h0 a_COMPENSATING (.int 2)) (f7 : S_2 Z h0 (.ref a_COMPENSATING)) :
    MetFree l x (head1 (Jvm.Cond.code x code maxLocals ret :: ws) room_1) (fun a U => a = #[(.int p0)] ∧ Z.Warmed39 U.vm ∧ U.heap = h0) (fun _ _ _ _ _ => True) (fun _ U o U' => ∃ v L, o = .returned v ∧ QT n0 v U'.heap L ∧ FrameEnd U o U' L room_1.cells room_1.slots) := by
  refine MetFree.of_bodySF (plainFor_of_name pn_com_example_knotwork_knotwork_store_SagaStateOfCodePinLaw) hisR ?_
  intro p e s m args below meth c s₁ Bd hml0 hP hK
  obtain ⟨rfl, hZ, hh⟩ := hP
  have hx := Bd.exec
  have hby := Bd.bytes
  have hml : c.maxLocals = 4 := hml0
  have hown : s.vm.findClass "com/example/knotwork/knotwork/store/SagaStateOfCodePinLaw" = some m.cls := findClass_of_methodNamed Bd.named
  have hnm := (name_of_methodNamed Bd.named Bd.method).1
  have X0 : Stand p l e room_1 s m #[(.int p0)] below meth c s₁ [] 0 0 := Stand.of_body Bd
  have e0 : s₁.heap = h0 := by rw [← hh, Bd.state]; rfl
  have N0 := Fr.nil n0
  -- pc 10: com/example/knotwork/knotwork/store/SagaState.ofCode
  obtain ⟨_, _, ⟨T1, L1, k1, n1⟩, -, X1, ⟨Lc1, hQ1, l1, y1, z1⟩, st1⟩ := Jvm.LawKit.callS X0 hx (y := M_1) hown (mvT hZ (tw_0 hw)) (mvT hZ (tw_1 hw)) (mvT hZ (tw_2 hw)) (mvT hZ (tw_3 hw)) (by decide) (backOf (W := 0) (rm1_38 l Z a0 hw [] a__VALUES kcl_VALUES a_RUNNING a_COMPENSATING a_COMPLETED a_COMPENSATED h0 n0 Z0 f2 f3 f4 f5 f6) hZ (tw_3 hw) (tw_2 hw) (by decide) (by decide)) (g := (mkF m 10 #[.val (.int p0), .val (.int 2), .val (.int 2), .unset] [(.int 2)])) rfl (by rw [hml]; rfl) (argsL := [(.int 2)]) (rest := []) (lenOf pd_1 rfl) rfl (by show 2 * 0 + _ ≤ _; exact Nat.le_of_eq rfl) (hb hby at_10) (fun _ _ => ⟨rfl, e0, (by decide : 0 + 1 ≤ _), (by decide : 0 + 4 ≤ _)⟩)
  dsimp only [Pt.U, Pt.locs, Pt.cells, Pt.slots] at X1 l1 y1 z1 st1 hQ1
  subst l1 y1 z1
  obtain ⟨rfl, Nq1, K1⟩ := hQ1
  have N1 := Fr.app N0 Nq1
  have KK1 : Keep h0 T1.heap [] := (Keep.refl h0 []).trans K1 (fun x hx => nomatch hx)
  -- pc 16: com/example/knotwork/knotwork/store/SagaStateOfCodePinLaw.expected
  have u2 : S_2 Z T1.heap (.ref a_COMPENSATING) := own_sta_keep f7 K1 (fun _ q => nomatch q)
  obtain ⟨_, _, ⟨T3, L3, k3, n3⟩, -, X3, ⟨Lc3, hQ3, l3, y3, z3⟩, st3⟩ := Jvm.LawKit.callS X1 hx (y := M_2) hown (mvT hZ (tw_25 hw)) (mvT hZ (tw_26 hw)) (mvT hZ (tw_27 hw)) (mvT hZ (tw_28 hw)) (by decide) (backOf (W := 1) (rm3_40 l Z a0 hw [] a_COMPENSATING T1.heap n0 (Nat.le_trans Z0 KK1.1) u2) hZ (tw_28 hw) (tw_27 hw) (by decide) (by decide)) (g := (mkF m 16 #[.val (.int p0), .val (.int 2), .val (.int 2), .val (.ref a_COMPENSATING)] [(.int 2), (.ref a_COMPENSATING)])) rfl (by rw [hml]; rfl) (argsL := [(.int 2)]) (rest := [(.ref a_COMPENSATING)]) (lenOf pd_2 rfl) rfl (by show 2 * 0 + _ ≤ _; exact Nat.le_of_eq rfl) (hb hby at_16) (fun _ _ => ⟨rfl, rfl, (by decide : 1 + 0 ≤ _), (by decide : 4 + 0 ≤ _)⟩)
  dsimp only [Pt.U, Pt.locs, Pt.cells, Pt.slots] at X3 l3 y3 z3 st3 hQ3
  subst l3 y3 z3
  obtain ⟨rfl, Nq3, e3⟩ := hQ3
  have N3 := Fr.app N1 Nq3
  have u4 : F_0 Z T1.heap a_COMPENSATING (.int 2) := Fld.keep f6 K1 List.not_mem_nil
  obtain ⟨T5, X5, e5, st5⟩ := getF X3 hx hZ hown (host := "") (Or.inl (tw_30 hw)) Via.refl e3 u4 (g := (mkF m 23 #[.val (.int p0), .val (.int 2), .val (.int 2), .val (.ref a_COMPENSATING)] [(.ref a_COMPENSATING)])) rfl rfl (hb hby at_23)
  obtain ⟨fs, hr, hrun, hended, hW, hsame⟩ := X5.leave (v := (some (.int 1))) (fun h => by rw [Bd.returns] at h; cases h)
  refine ⟨_, _, castTop (ef0_I m p0) ?_, hrun, hended, _, _, rfl, ?_, ⟨_, rfl⟩, hW, hsame.mono (by decide) (by decide)⟩
  · show Steps p.tables e below (s₁.setTop (mkF m 0 #[.val (.int p0), .unset, .unset, .unset] [])) _
    refine XS.iloadN X0.here hx rfl (hb hby at_0) rfl ?_
    refine XS.iconst X0.here hx rfl (hb hby at_1) ?_
    show Steps p.tables e below (s₁.setTop (mkF m 2 #[.val (.int p0), .unset, .unset, .unset] [(.int 3), (.int p0)])) _
    refine XS.iand X0.here hx rfl (hb hby at_2) rfl ?_
    show Steps p.tables e below (s₁.setTop (mkF m 3 #[.val (.int p0), .unset, .unset, .unset] [(.int (p0 &&& (3 : Int32)))])) _
    rw [f1]
    refine XS.iconst X0.here hx rfl (hb hby at_3) ?_
    show Steps p.tables e below (s₁.setTop (mkF m 4 #[.val (.int p0), .unset, .unset, .unset] [(.int 1), (.int 1)])) _
    refine XS.iadd X0.here hx rfl (hb hby at_4) rfl ?_
    show Steps p.tables e below (s₁.setTop (mkF m 5 #[.val (.int p0), .unset, .unset, .unset] [(.int ((1 : Int32) + (1 : Int32)))])) _
    rw [show ((1 : Int32) + (1 : Int32)) = (2 : Int32) from by decide]
    refine XS.istoreN X0.here hx rfl (hb hby at_5) rfl (l' := #[.val (.int p0), .val (.int 2), .unset, .unset]) rfl ?_
    refine XS.iloadN X0.here hx rfl (hb hby at_6) rfl ?_
    show Steps p.tables e below (s₁.setTop (mkF m 7 #[.val (.int p0), .val (.int 2), .unset, .unset] [(.int 2)])) _
    refine XS.i2b X0.here hx rfl (hb hby at_7) rfl ?_
    show Steps p.tables e below (s₁.setTop (mkF m 8 #[.val (.int p0), .val (.int 2), .unset, .unset] [(.int ((2 : Int32).toInt8.toInt32))])) _
    rw [show ((2 : Int32).toInt8.toInt32) = (2 : Int32) from by decide]
    refine XS.istoreN X0.here hx rfl (hb hby at_8) rfl (l' := #[.val (.int p0), .val (.int 2), .val (.int 2), .unset]) rfl ?_
    refine XS.iloadN X0.here hx rfl (hb hby at_9) rfl ?_
    show Steps p.tables e below (s₁.setTop (mkF m 10 #[.val (.int p0), .val (.int 2), .val (.int 2), .unset] [(.int 2)])) _
    refine st1 _ ?_
    refine XS.astoreN X1.here hx rfl (hb hby at_13) rfl rfl (l' := #[.val (.int p0), .val (.int 2), .val (.int 2), .val (.ref a_COMPENSATING)]) rfl ?_
    refine XS.aloadN X1.here hx rfl (hb hby at_14) rfl rfl ?_
    refine XS.iloadN X1.here hx rfl (hb hby at_15) rfl ?_
    show Steps p.tables e below (T1.setTop (mkF m 16 #[.val (.int p0), .val (.int 2), .val (.int 2), .val (.ref a_COMPENSATING)] [(.int 2), (.ref a_COMPENSATING)])) _
    refine st3 _ ?_
    show Steps p.tables e below (T3.setTop (mkF m 19 #[.val (.int p0), .val (.int 2), .val (.int 2), .val (.ref a_COMPENSATING)] [(.ref a_COMPENSATING), (.ref a_COMPENSATING)])) _
    refine Jvm.RoadKit.acmp (g := (mkF m 19 #[.val (.int p0), .val (.int 2), .val (.int 2), .val (.ref a_COMPENSATING)] [(.ref a_COMPENSATING), (.ref a_COMPENSATING)])) X3 hx rfl rfl rfl (pc0 := 19) (pc' := 22) (same := true) rfl (hb hby at_19) rfl (decide_eq_true rfl) (by decide) (by decide) ?_
    refine XS.aloadN X3.here hx rfl (hb hby at_22) rfl rfl ?_
    show Steps p.tables e below (T3.setTop (mkF m 23 #[.val (.int p0), .val (.int 2), .val (.int 2), .val (.ref a_COMPENSATING)] [(.ref a_COMPENSATING)])) _
    refine st5 _ ?_
    refine XS.iloadN X5.here hx rfl (hb hby at_26) rfl ?_
    refine XS.icmpNo X5.here hx rfl (hb hby at_27) rfl (by decide) ?_
    refine XS.iconst X5.here hx rfl (hb hby at_30) ?_
    refine XS.goto X5.here hx rfl (pc0 := 31) (pc' := 35) rfl (hb hby at_31) (by decide) (by decide) ?_
    show Steps p.tables e below (T5.setTop (mkF m 35 #[.val (.int p0), .val (.int 2), .val (.int 2), .val (.ref a_COMPENSATING)] [(.int 1)])) _
    exact retN X5 hx (t := .boolean) Bd.returns (by simp) (hb hby at_35) hr
  · show QT n0 _ T5.heap _
    rw [e5]
    exact ⟨rfl, N3⟩
def Q1_44 (Z : State) (a_COMPLETED : Addr) (h0 : Heap) (n0 : Nat) (v : Option Value) (h : Heap) (L : List Loc) : Prop := v = (some (.ref a_COMPLETED)) ∧ Fr n0 L ∧ Keep h0 h []
set_option maxRecDepth 65536 in
set_option maxHeartbeats 40000000 in
theorem rm1_43 (l : Launch) (Z : State) (a0 : Array Value) (hw : ∀ d ∈ tables_1, d.before a0 Z = true) (ws : List Jvm.Cond) (a__VALUES : Addr) (kcl_VALUES : ClassId) (a_RUNNING : Addr) (a_COMPENSATING : Addr) (a_COMPLETED : Addr) (a_COMPENSATED : Addr) (h0 : Heap) (n0 : Nat) (Z0 : n0 ≤ h0.size) (f1 : S_0 Z h0 (.ref a__VALUES)) (f2 : Arv Z h0 a__VALUES kcl_VALUES (.object "com/example/knotwork/knotwork/store/SagaState") (4 : Int32) [(.ref a_RUNNING), (.ref a_COMPENSATING), (.ref a_COMPLETED), (.ref a_COMPENSATED)] .null) (f3 : E_0 Z h0 a__VALUES) (f4 : F_0 Z h0 a_RUNNING (.int 1)) (f5 : F_0 Z h0 a_COMPENSATING (.int 2)) (f6 : F_0 Z h0 a_COMPLETED (.int 3)) :
    MetFree l M_1 (head1 (Jvm.Cond.code M_1 prog_30_method_6_code 5 (some (.object "com/example/knotwork/knotwork/store/SagaState")) :: ws) R_2_1_4_25) (fun a U => a = #[(.int 3)] ∧ Z.Warmed39 U.vm ∧ U.heap = h0) (fun _ _ _ _ _ => True) (fun _ U o U' => ∃ v L, o = .returned v ∧ Q1_44 Z a_COMPLETED h0 n0 v U'.heap L ∧ FrameEnd U o U' L R_2_1_4_25.cells R_2_1_4_25.slots) := by
  refine MetFree.of_bodySF (plainFor_of_name pn_com_example_knotwork_knotwork_store_SagaState) hisR ?_
  intro p e s m args below meth c s₁ Bd hml0 hP hK
  obtain ⟨rfl, hZ, hh⟩ := hP
  have hx := Bd.exec
  have hby := Bd.bytes
  have hml : c.maxLocals = 5 := hml0
  have hown : s.vm.findClass "com/example/knotwork/knotwork/store/SagaState" = some m.cls := findClass_of_methodNamed Bd.named
  have hnm := (name_of_methodNamed Bd.named Bd.method).1
  have X0 : Stand p l e R_2_1_4_25 s m #[(.int 3)] below meth c s₁ [] 0 0 := Stand.of_body Bd
  have e0 : s₁.heap = h0 := by rw [← hh, Bd.state]; rfl
  have N0 := Fr.nil n0
  -- pc 0: com/example/knotwork/knotwork/store/SagaState.values
  obtain ⟨_, _, ⟨T1, L1, k1, n1⟩, -, X1, ⟨Lc1, hQ1, l1, y1, z1⟩, st1⟩ := Jvm.LawKit.callS X0 hx (y := M_0) hown (mvT hZ (tw_4 hw)) (mvT hZ (tw_5 hw)) (mvT hZ (tw_2 hw)) (mvT hZ (tw_6 hw)) (by decide) (backOf (W := 0) (rm2_30 l Z a0 hw [] a__VALUES kcl_VALUES a_RUNNING a_COMPENSATING a_COMPLETED a_COMPENSATED h0 n0 Z0 f1 f2 f3) hZ (tw_6 hw) (tw_2 hw) (by decide) (by decide)) (g := (mkF m 0 #[.val (.int 3), .unset, .unset, .unset, .unset] [])) rfl (by rw [hml]; rfl) (argsL := []) (rest := []) (lenOf pd_0 rfl) rfl (by show 2 * 0 + _ ≤ _; exact Nat.le_of_eq rfl) (hb hby d1_0) (fun _ _ => ⟨rfl, e0, (by decide : 0 + 1 ≤ _), (by decide : 0 + 4 ≤ _)⟩)
  dsimp only [Pt.U, Pt.locs, Pt.cells, Pt.slots] at X1 l1 y1 z1 st1 hQ1
  subst l1 y1 z1
  obtain ⟨b42, rfl, Nq1, K1, le_b42, o1_0, o1_1⟩ := hQ1
  have N1 := Fr.app N0 Nq1
  have sz_b42 : h0.size ≤ b42 := Nat.le_trans (Nat.le_refl _) le_b42
  have g_b42 : n0 ≤ b42 := Nat.le_trans Z0 sz_b42
  have KK1 : Keep h0 T1.heap [] := (Keep.refl h0 []).trans K1 (fun x hx => nomatch hx)
  have va2 := o1_0
  obtain ⟨cl2, Ar2, -, S2, N2_, -, -⟩ := va2
  have va3 := o1_0
  obtain ⟨cl3, Ar3, -, S3, -, H3, -⟩ := va3
  have hin3 : ¬ ((0 : Int32) < 0 ∨ cl3.slots.size ≤ ((0 : Int32)).toNatClampNeg) := inb_of S3 ⟨by decide, by decide⟩
  have hat3 : cl3.slots[((0 : Int32)).toNatClampNeg]? = some (.ref a_RUNNING) := H3 _ (Nat.lt_of_not_le fun y => hin3 (Or.inr y))
  have u4 : F_0 Z T1.heap a_RUNNING (.int 1) := Fld.keep f4 K1 List.not_mem_nil
  obtain ⟨T5, X5, e5, st5⟩ := getF X1 hx hZ hown (host := "") (Or.inl (tw_23 hw)) Via.refl rfl u4 (g := (mkF m 21 #[.val (.int 3), .val (.ref b42), .val (.int 4), .val (.int 0), .val (.ref a_RUNNING)] [(.ref a_RUNNING)])) rfl rfl (hb hby d1_21)
  have va6 := o1_0
  obtain ⟨cl6, Ar6, -, S6, -, H6, -⟩ := va6
  have hin6 : ¬ ((1 : Int32) < 0 ∨ cl6.slots.size ≤ ((1 : Int32)).toNatClampNeg) := inb_of S6 ⟨by decide, by decide⟩
  have hat6 : cl6.slots[((1 : Int32)).toNatClampNeg]? = some (.ref a_COMPENSATING) := H6 _ (Nat.lt_of_not_le fun y => hin6 (Or.inr y))
  have u7 : F_0 Z T1.heap a_COMPENSATING (.int 2) := Fld.keep f5 K1 List.not_mem_nil
  obtain ⟨T8, X8, e8, st8⟩ := getF X5 hx hZ hown (host := "") (Or.inl (tw_23 hw)) Via.refl e5 u7 (g := (mkF m 21 #[.val (.int 3), .val (.ref b42), .val (.int 4), .val (.int 1), .val (.ref a_COMPENSATING)] [(.ref a_COMPENSATING)])) rfl rfl (hb hby d1_21)
  have va9 := o1_0
  obtain ⟨cl9, Ar9, -, S9, -, H9, -⟩ := va9
  have hin9 : ¬ ((2 : Int32) < 0 ∨ cl9.slots.size ≤ ((2 : Int32)).toNatClampNeg) := inb_of S9 ⟨by decide, by decide⟩
  have hat9 : cl9.slots[((2 : Int32)).toNatClampNeg]? = some (.ref a_COMPLETED) := H9 _ (Nat.lt_of_not_le fun y => hin9 (Or.inr y))
  have u10 : F_0 Z T1.heap a_COMPLETED (.int 3) := Fld.keep f6 K1 List.not_mem_nil
  obtain ⟨T11, X11, e11, st11⟩ := getF X8 hx hZ hown (host := "") (Or.inl (tw_23 hw)) Via.refl e8 u10 (g := (mkF m 21 #[.val (.int 3), .val (.ref b42), .val (.int 4), .val (.int 2), .val (.ref a_COMPLETED)] [(.ref a_COMPLETED)])) rfl rfl (hb hby d1_21)
  obtain ⟨fs, hr, hrun, hended, hW, hsame⟩ := X11.leave (v := (some (.ref a_COMPLETED))) (fun h => by rw [Bd.returns] at h; cases h)
  refine ⟨_, _, castTop (ef1_I m (3 : Int32)) ?_, hrun, hended, _, _, rfl, ?_, ⟨_, rfl⟩, hW, hsame.mono (by decide) (by decide)⟩
  · show Steps p.tables e below (s₁.setTop (mkF m 0 #[.val (.int 3), .unset, .unset, .unset, .unset] [])) _
    refine st1 _ ?_
    refine XS.astoreN X1.here hx rfl (hb hby d1_3) rfl rfl (l' := #[.val (.int 3), .val (.ref b42), .unset, .unset, .unset]) rfl ?_
    refine XS.aloadN X1.here hx rfl (hb hby d1_4) rfl rfl ?_
    show Steps p.tables e below (T1.setTop (mkF m 5 #[.val (.int 3), .val (.ref b42), .unset, .unset, .unset] [(.ref b42)])) _
    refine X1.arraylength hx (by exact Ar2.1) (State.isArrayOf_alike hZ.alike Ar2.2.1) (g := (mkF m 5 #[.val (.int 3), .val (.ref b42), .unset, .unset, .unset] [(.ref b42)])) rfl rfl (hb hby d1_5) _ ?_
    rw [len_of S2 N2_]
    refine XS.istoreN X1.here hx rfl (hb hby d1_6) rfl (l' := #[.val (.int 3), .val (.ref b42), .val (.int 4), .unset, .unset]) rfl ?_
    refine XS.iconst X1.here hx rfl (hb hby d1_7) ?_
    refine XS.istoreN X1.here hx rfl (hb hby d1_8) rfl (l' := #[.val (.int 3), .val (.ref b42), .val (.int 4), .val (.int 0), .unset]) rfl ?_
    refine XS.iloadN X1.here hx rfl (hb hby d1_9) rfl ?_
    show Steps p.tables e below (T1.setTop (mkF m 10 #[.val (.int 3), .val (.ref b42), .val (.int 4), .val (.int 0), .unset] [(.int 0)])) _
    refine XS.iloadN X1.here hx rfl (hb hby d1_10) rfl ?_
    refine XS.icmpNo X1.here hx rfl (hb hby d1_11) rfl (by decide) ?_
    refine XS.aloadN X1.here hx rfl (hb hby d1_14) rfl rfl ?_
    refine XS.iloadN X1.here hx rfl (hb hby d1_15) rfl ?_
    show Steps p.tables e below (T1.setTop (mkF m 16 #[.val (.int 3), .val (.ref b42), .val (.int 4), .val (.int 0), .unset] [(.int 0), (.ref b42)])) _
    refine X1.aaload hx (j := (0 : Int32)) (v := (.ref a_RUNNING)) (by exact Ar3.1) (State.isArrayOf_alike hZ.alike Ar3.2.1) rfl Ar3.2.2 hin3 hat3 (g := (mkF m 16 #[.val (.int 3), .val (.ref b42), .val (.int 4), .val (.int 0), .unset] [(.int 0), (.ref b42)])) rfl rfl (hb hby d1_16) _ ?_
    refine XS.astore X1.here hx rfl (hb hby d1_17) rfl rfl (l' := #[.val (.int 3), .val (.ref b42), .val (.int 4), .val (.int 0), .val (.ref a_RUNNING)]) rfl ?_
    refine XS.aload X1.here hx rfl (hb hby d1_19) rfl rfl ?_
    show Steps p.tables e below (T1.setTop (mkF m 21 #[.val (.int 3), .val (.ref b42), .val (.int 4), .val (.int 0), .val (.ref a_RUNNING)] [(.ref a_RUNNING)])) _
    refine st5 _ ?_
    refine XS.iloadN X5.here hx rfl (hb hby d1_24) rfl ?_
    refine XS.icmpYes X5.here hx rfl (pc0 := 25) (pc' := 31) rfl (hb hby d1_25) rfl (by decide) (by decide) (by decide) ?_
    show Steps p.tables e below (T5.setTop (mkF m 31 #[.val (.int 3), .val (.ref b42), .val (.int 4), .val (.int 0), .val (.ref a_RUNNING)] [])) _
    refine XS.iinc X5.here hx rfl (hb hby d1_31) rfl (l' := #[.val (.int 3), .val (.ref b42), .val (.int 4), .val (.int ((0 : Int32) + (1 : Int32))), .val (.ref a_RUNNING)]) rfl ?_
    show Steps p.tables e below (T5.setTop (mkF m 34 #[.val (.int 3), .val (.ref b42), .val (.int 4), .val (.int ((0 : Int32) + (1 : Int32))), .val (.ref a_RUNNING)] [])) _
    rw [show ((0 : Int32) + (1 : Int32)) = (1 : Int32) from by decide]
    refine XS.goto X5.here hx rfl (pc0 := 34) (pc' := 9) rfl (hb hby d1_34) (by decide) (by decide) ?_
    refine XS.iloadN X5.here hx rfl (hb hby d1_9) rfl ?_
    refine XS.iloadN X5.here hx rfl (hb hby d1_10) rfl ?_
    refine XS.icmpNo X5.here hx rfl (hb hby d1_11) rfl (by decide) ?_
    show Steps p.tables e below (T5.setTop (mkF m 14 #[.val (.int 3), .val (.ref b42), .val (.int 4), .val (.int 1), .val (.ref a_RUNNING)] [])) _
    refine XS.aloadN X5.here hx rfl (hb hby d1_14) rfl rfl ?_
    refine XS.iloadN X5.here hx rfl (hb hby d1_15) rfl ?_
    show Steps p.tables e below (T5.setTop (mkF m 16 #[.val (.int 3), .val (.ref b42), .val (.int 4), .val (.int 1), .val (.ref a_RUNNING)] [(.int 1), (.ref b42)])) _
    refine X5.aaload hx (j := (1 : Int32)) (v := (.ref a_COMPENSATING)) (by rw [e5]; exact Ar6.1) (State.isArrayOf_alike hZ.alike Ar6.2.1) rfl Ar6.2.2 hin6 hat6 (g := (mkF m 16 #[.val (.int 3), .val (.ref b42), .val (.int 4), .val (.int 1), .val (.ref a_RUNNING)] [(.int 1), (.ref b42)])) rfl rfl (hb hby d1_16) _ ?_
    refine XS.astore X5.here hx rfl (hb hby d1_17) rfl rfl (l' := #[.val (.int 3), .val (.ref b42), .val (.int 4), .val (.int 1), .val (.ref a_COMPENSATING)]) rfl ?_
    refine XS.aload X5.here hx rfl (hb hby d1_19) rfl rfl ?_
    show Steps p.tables e below (T5.setTop (mkF m 21 #[.val (.int 3), .val (.ref b42), .val (.int 4), .val (.int 1), .val (.ref a_COMPENSATING)] [(.ref a_COMPENSATING)])) _
    refine st8 _ ?_
    refine XS.iloadN X8.here hx rfl (hb hby d1_24) rfl ?_
    refine XS.icmpYes X8.here hx rfl (pc0 := 25) (pc' := 31) rfl (hb hby d1_25) rfl (by decide) (by decide) (by decide) ?_
    show Steps p.tables e below (T8.setTop (mkF m 31 #[.val (.int 3), .val (.ref b42), .val (.int 4), .val (.int 1), .val (.ref a_COMPENSATING)] [])) _
    refine XS.iinc X8.here hx rfl (hb hby d1_31) rfl (l' := #[.val (.int 3), .val (.ref b42), .val (.int 4), .val (.int ((1 : Int32) + (1 : Int32))), .val (.ref a_COMPENSATING)]) rfl ?_
    show Steps p.tables e below (T8.setTop (mkF m 34 #[.val (.int 3), .val (.ref b42), .val (.int 4), .val (.int ((1 : Int32) + (1 : Int32))), .val (.ref a_COMPENSATING)] [])) _
    rw [show ((1 : Int32) + (1 : Int32)) = (2 : Int32) from by decide]
    refine XS.goto X8.here hx rfl (pc0 := 34) (pc' := 9) rfl (hb hby d1_34) (by decide) (by decide) ?_
    refine XS.iloadN X8.here hx rfl (hb hby d1_9) rfl ?_
    refine XS.iloadN X8.here hx rfl (hb hby d1_10) rfl ?_
    refine XS.icmpNo X8.here hx rfl (hb hby d1_11) rfl (by decide) ?_
    show Steps p.tables e below (T8.setTop (mkF m 14 #[.val (.int 3), .val (.ref b42), .val (.int 4), .val (.int 2), .val (.ref a_COMPENSATING)] [])) _
    refine XS.aloadN X8.here hx rfl (hb hby d1_14) rfl rfl ?_
    refine XS.iloadN X8.here hx rfl (hb hby d1_15) rfl ?_
    show Steps p.tables e below (T8.setTop (mkF m 16 #[.val (.int 3), .val (.ref b42), .val (.int 4), .val (.int 2), .val (.ref a_COMPENSATING)] [(.int 2), (.ref b42)])) _
    refine X8.aaload hx (j := (2 : Int32)) (v := (.ref a_COMPLETED)) (by rw [e8]; exact Ar9.1) (State.isArrayOf_alike hZ.alike Ar9.2.1) rfl Ar9.2.2 hin9 hat9 (g := (mkF m 16 #[.val (.int 3), .val (.ref b42), .val (.int 4), .val (.int 2), .val (.ref a_COMPENSATING)] [(.int 2), (.ref b42)])) rfl rfl (hb hby d1_16) _ ?_
    refine XS.astore X8.here hx rfl (hb hby d1_17) rfl rfl (l' := #[.val (.int 3), .val (.ref b42), .val (.int 4), .val (.int 2), .val (.ref a_COMPLETED)]) rfl ?_
    refine XS.aload X8.here hx rfl (hb hby d1_19) rfl rfl ?_
    show Steps p.tables e below (T8.setTop (mkF m 21 #[.val (.int 3), .val (.ref b42), .val (.int 4), .val (.int 2), .val (.ref a_COMPLETED)] [(.ref a_COMPLETED)])) _
    refine st11 _ ?_
    refine XS.iloadN X11.here hx rfl (hb hby d1_24) rfl ?_
    refine XS.icmpNo X11.here hx rfl (hb hby d1_25) rfl (by decide) ?_
    refine XS.aload X11.here hx rfl (hb hby d1_28) rfl rfl ?_
    show Steps p.tables e below (T11.setTop (mkF m 30 #[.val (.int 3), .val (.ref b42), .val (.int 4), .val (.int 2), .val (.ref a_COMPLETED)] [(.ref a_COMPLETED)])) _
    jvm_step X11.here [X11.here.top, hx, (hb hby d1_30), X11.method', Bd.returns, Value.isRef, FieldType.isReference]
    first | (intro acts; rw [hr _ acts rfl rfl rfl]) | rw [hr _ _ rfl rfl rfl]
    exact Steps.refl _
  · show Q1_44 Z a_COMPLETED h0 n0 _ T11.heap _
    rw [e11]
    exact ⟨rfl, N1, KK1⟩
theorem d3_18 : decode method_2_code 18 = .ok (.iload_n 0, 1) := by decide +kernel
theorem d3_19 : decode method_2_code 19 = .ok (.iconst 3, 1) := by decide +kernel
theorem d3_20 : decode method_2_code 20 = .ok (.if_icmp .ne 7, 3) := by decide +kernel
theorem d3_23 : decode method_2_code 23 = .ok (.getstatic 16, 3) := by decide +kernel
theorem tw_32 {a0 : Array Value} {Z : State} (hw : ∀ d ∈ tables_1, d.before a0 Z = true) : (Jvm.Cond.fieldLink "com/example/knotwork/knotwork/store/SagaStateOfCodePinLaw" (16 : Nat) "com/example/knotwork/knotwork/store/SagaState" "COMPLETED" "Lcom/example/knotwork/knotwork/store/SagaState;").before a0 Z = true := hw _ (List.mem_of_getElem? (i := 32) rfl)
theorem d3_26 : decode method_2_code 26 = .ok (.areturn, 1) := by decide +kernel
set_option maxRecDepth 65536 in
set_option maxHeartbeats 40000000 in
theorem rm3_45 (l : Launch) (Z : State) (a0 : Array Value) (hw : ∀ d ∈ tables_1, d.before a0 Z = true) (ws : List Jvm.Cond) (a_COMPLETED : Addr) (h0 : Heap) (n0 : Nat) (Z0 : n0 ≤ h0.size) (f1 : S_3 Z h0 (.ref a_COMPLETED)) :
    MetFree l M_2 (head1 (Jvm.Cond.code M_2 method_2_code 1 (some (.object "com/example/knotwork/knotwork/store/SagaState")) :: ws) R_0_0_0_0) (fun a U => a = #[(.int 3)] ∧ Z.Warmed39 U.vm ∧ U.heap = h0) (fun _ _ _ _ _ => True) (fun _ U o U' => ∃ v L, o = .returned v ∧ QP (some (.ref a_COMPLETED)) h0 n0 v U'.heap L ∧ FrameEnd U o U' L R_0_0_0_0.cells R_0_0_0_0.slots) := by
  refine MetFree.of_bodySF (plainFor_of_name pn_com_example_knotwork_knotwork_store_SagaStateOfCodePinLaw) hisR ?_
  intro p e s m args below meth c s₁ Bd hml0 hP hK
  obtain ⟨rfl, hZ, hh⟩ := hP
  have hx := Bd.exec
  have hby := Bd.bytes
  have hml : c.maxLocals = 1 := hml0
  have hown : s.vm.findClass "com/example/knotwork/knotwork/store/SagaStateOfCodePinLaw" = some m.cls := findClass_of_methodNamed Bd.named
  have hnm := (name_of_methodNamed Bd.named Bd.method).1
  have X0 : Stand p l e R_0_0_0_0 s m #[(.int 3)] below meth c s₁ [] 0 0 := Stand.of_body Bd
  have e0 : s₁.heap = h0 := by rw [← hh, Bd.state]; rfl
  have N0 := Fr.nil n0
  obtain ⟨T1, X1, e1, st1⟩ := getS2 X0 hx hZ hown (host := "") (Or.inl (tw_32 hw)) Via.refl e0 f1 (g := (mkF m 23 #[.val (.int 3)] [])) rfl (hb hby d3_23)
  obtain ⟨fs, hr, hrun, hended, hW, hsame⟩ := X1.leave (v := (some (.ref a_COMPLETED))) (fun h => by rw [Bd.returns] at h; cases h)
  refine ⟨_, _, castTop (ef3_I m (3 : Int32)) ?_, hrun, hended, _, _, rfl, ?_, ⟨_, rfl⟩, hW, hsame.mono (by decide) (by decide)⟩
  · show Steps p.tables e below (s₁.setTop (mkF m 0 #[.val (.int 3)] [])) _
    refine XS.iloadN X0.here hx rfl (hb hby d3_0) rfl ?_
    refine XS.iconst X0.here hx rfl (hb hby d3_1) ?_
    refine XS.icmpYes X0.here hx rfl (pc0 := 2) (pc' := 9) rfl (hb hby d3_2) rfl (by decide) (by decide) (by decide) ?_
    refine XS.iloadN X0.here hx rfl (hb hby d3_9) rfl ?_
    refine XS.iconst X0.here hx rfl (hb hby d3_10) ?_
    show Steps p.tables e below (s₁.setTop (mkF m 11 #[.val (.int 3)] [(.int 2), (.int 3)])) _
    refine XS.icmpYes X0.here hx rfl (pc0 := 11) (pc' := 18) rfl (hb hby d3_11) rfl (by decide) (by decide) (by decide) ?_
    refine XS.iloadN X0.here hx rfl (hb hby d3_18) rfl ?_
    refine XS.iconst X0.here hx rfl (hb hby d3_19) ?_
    refine XS.icmpNo X0.here hx rfl (hb hby d3_20) rfl (by decide) ?_
    show Steps p.tables e below (s₁.setTop (mkF m 23 #[.val (.int 3)] [])) _
    refine st1 _ ?_
    show Steps p.tables e below (T1.setTop (mkF m 26 #[.val (.int 3)] [(.ref a_COMPLETED)])) _
    jvm_step X1.here [X1.here.top, hx, (hb hby d3_26), X1.method', Bd.returns, Value.isRef, FieldType.isReference]
    first | (intro acts; rw [hr _ acts rfl rfl rfl]) | rw [hr _ _ rfl rfl rfl]
    exact Steps.refl _
  · show QP (some (.ref a_COMPLETED)) h0 n0 _ T1.heap _
    rw [e1]
    exact ⟨rfl, N0, rfl⟩
set_option maxRecDepth 65536 in
set_option maxHeartbeats 40000000 in
theorem rm0_46 (l : Launch) (Z : State) (a0 : Array Value) (hw : ∀ d ∈ tables_1, d.before a0 Z = true) (ws : List Jvm.Cond) (p0 : Int32) (a__VALUES : Addr) (kcl_VALUES : ClassId) (a_RUNNING : Addr) (a_COMPENSATING : Addr) (a_COMPLETED : Addr) (a_COMPENSATED : Addr) (h0 : Heap) (n0 : Nat) (Z0 : n0 ≤ h0.size) (f1 : (p0 &&& (3 : Int32)) = (2 : Int32)) (f2 : S_0 Z h0 (.ref a__VALUES)) (f3 : Arv Z h0 a__VALUES kcl_VALUES (.object "com/example/knotwork/knotwork/store/SagaState") (4 : Int32) [(.ref a_RUNNING), (.ref a_COMPENSATING), (.ref a_COMPLETED), (.ref a_COMPENSATED)] .null) (f4 : E_0 Z h0 a__VALUES) (f5 : F_0 Z h0 a_RUNNING (.int 1)) (f6 : F_0 Z h0 a_COMPENSATING (.int 2)) (f7 : F_0 Z h0 a_COMPLETED (.int 3)) (f8 : S_3 Z h0 (.ref a_COMPLETED)) :
    MetFree l x (head1 (Jvm.Cond.code x code maxLocals ret :: ws) room_1) (fun a U => a = #[(.int p0)] ∧ Z.Warmed39 U.vm ∧ U.heap = h0) (fun _ _ _ _ _ => True) (fun _ U o U' => ∃ v L, o = .returned v ∧ QT n0 v U'.heap L ∧ FrameEnd U o U' L room_1.cells room_1.slots) := by
  refine MetFree.of_bodySF (plainFor_of_name pn_com_example_knotwork_knotwork_store_SagaStateOfCodePinLaw) hisR ?_
  intro p e s m args below meth c s₁ Bd hml0 hP hK
  obtain ⟨rfl, hZ, hh⟩ := hP
  have hx := Bd.exec
  have hby := Bd.bytes
  have hml : c.maxLocals = 4 := hml0
  have hown : s.vm.findClass "com/example/knotwork/knotwork/store/SagaStateOfCodePinLaw" = some m.cls := findClass_of_methodNamed Bd.named
  have hnm := (name_of_methodNamed Bd.named Bd.method).1
  have X0 : Stand p l e room_1 s m #[(.int p0)] below meth c s₁ [] 0 0 := Stand.of_body Bd
  have e0 : s₁.heap = h0 := by rw [← hh, Bd.state]; rfl
  have N0 := Fr.nil n0
  -- pc 10: com/example/knotwork/knotwork/store/SagaState.ofCode
  obtain ⟨_, _, ⟨T1, L1, k1, n1⟩, -, X1, ⟨Lc1, hQ1, l1, y1, z1⟩, st1⟩ := Jvm.LawKit.callS X0 hx (y := M_1) hown (mvT hZ (tw_0 hw)) (mvT hZ (tw_1 hw)) (mvT hZ (tw_2 hw)) (mvT hZ (tw_3 hw)) (by decide) (backOf (W := 0) (rm1_43 l Z a0 hw [] a__VALUES kcl_VALUES a_RUNNING a_COMPENSATING a_COMPLETED a_COMPENSATED h0 n0 Z0 f2 f3 f4 f5 f6 f7) hZ (tw_3 hw) (tw_2 hw) (by decide) (by decide)) (g := (mkF m 10 #[.val (.int p0), .val (.int 3), .val (.int 3), .unset] [(.int 3)])) rfl (by rw [hml]; rfl) (argsL := [(.int 3)]) (rest := []) (lenOf pd_1 rfl) rfl (by show 2 * 0 + _ ≤ _; exact Nat.le_of_eq rfl) (hb hby at_10) (fun _ _ => ⟨rfl, e0, (by decide : 0 + 1 ≤ _), (by decide : 0 + 4 ≤ _)⟩)
  dsimp only [Pt.U, Pt.locs, Pt.cells, Pt.slots] at X1 l1 y1 z1 st1 hQ1
  subst l1 y1 z1
  obtain ⟨rfl, Nq1, K1⟩ := hQ1
  have N1 := Fr.app N0 Nq1
  have KK1 : Keep h0 T1.heap [] := (Keep.refl h0 []).trans K1 (fun x hx => nomatch hx)
  -- pc 16: com/example/knotwork/knotwork/store/SagaStateOfCodePinLaw.expected
  have u2 : S_3 Z T1.heap (.ref a_COMPLETED) := own_sta_keep f8 K1 (fun _ q => nomatch q)
  obtain ⟨_, _, ⟨T3, L3, k3, n3⟩, -, X3, ⟨Lc3, hQ3, l3, y3, z3⟩, st3⟩ := Jvm.LawKit.callS X1 hx (y := M_2) hown (mvT hZ (tw_25 hw)) (mvT hZ (tw_26 hw)) (mvT hZ (tw_27 hw)) (mvT hZ (tw_28 hw)) (by decide) (backOf (W := 1) (rm3_45 l Z a0 hw [] a_COMPLETED T1.heap n0 (Nat.le_trans Z0 KK1.1) u2) hZ (tw_28 hw) (tw_27 hw) (by decide) (by decide)) (g := (mkF m 16 #[.val (.int p0), .val (.int 3), .val (.int 3), .val (.ref a_COMPLETED)] [(.int 3), (.ref a_COMPLETED)])) rfl (by rw [hml]; rfl) (argsL := [(.int 3)]) (rest := [(.ref a_COMPLETED)]) (lenOf pd_2 rfl) rfl (by show 2 * 0 + _ ≤ _; exact Nat.le_of_eq rfl) (hb hby at_16) (fun _ _ => ⟨rfl, rfl, (by decide : 1 + 0 ≤ _), (by decide : 4 + 0 ≤ _)⟩)
  dsimp only [Pt.U, Pt.locs, Pt.cells, Pt.slots] at X3 l3 y3 z3 st3 hQ3
  subst l3 y3 z3
  obtain ⟨rfl, Nq3, e3⟩ := hQ3
  have N3 := Fr.app N1 Nq3
  have u4 : F_0 Z T1.heap a_COMPLETED (.int 3) := Fld.keep f7 K1 List.not_mem_nil
  obtain ⟨T5, X5, e5, st5⟩ := getF X3 hx hZ hown (host := "") (Or.inl (tw_30 hw)) Via.refl e3 u4 (g := (mkF m 23 #[.val (.int p0), .val (.int 3), .val (.int 3), .val (.ref a_COMPLETED)] [(.ref a_COMPLETED)])) rfl rfl (hb hby at_23)
  obtain ⟨fs, hr, hrun, hended, hW, hsame⟩ := X5.leave (v := (some (.int 1))) (fun h => by rw [Bd.returns] at h; cases h)
  refine ⟨_, _, castTop (ef0_I m p0) ?_, hrun, hended, _, _, rfl, ?_, ⟨_, rfl⟩, hW, hsame.mono (by decide) (by decide)⟩
  · show Steps p.tables e below (s₁.setTop (mkF m 0 #[.val (.int p0), .unset, .unset, .unset] [])) _
    refine XS.iloadN X0.here hx rfl (hb hby at_0) rfl ?_
    refine XS.iconst X0.here hx rfl (hb hby at_1) ?_
    show Steps p.tables e below (s₁.setTop (mkF m 2 #[.val (.int p0), .unset, .unset, .unset] [(.int 3), (.int p0)])) _
    refine XS.iand X0.here hx rfl (hb hby at_2) rfl ?_
    show Steps p.tables e below (s₁.setTop (mkF m 3 #[.val (.int p0), .unset, .unset, .unset] [(.int (p0 &&& (3 : Int32)))])) _
    rw [f1]
    refine XS.iconst X0.here hx rfl (hb hby at_3) ?_
    show Steps p.tables e below (s₁.setTop (mkF m 4 #[.val (.int p0), .unset, .unset, .unset] [(.int 1), (.int 2)])) _
    refine XS.iadd X0.here hx rfl (hb hby at_4) rfl ?_
    show Steps p.tables e below (s₁.setTop (mkF m 5 #[.val (.int p0), .unset, .unset, .unset] [(.int ((2 : Int32) + (1 : Int32)))])) _
    rw [show ((2 : Int32) + (1 : Int32)) = (3 : Int32) from by decide]
    refine XS.istoreN X0.here hx rfl (hb hby at_5) rfl (l' := #[.val (.int p0), .val (.int 3), .unset, .unset]) rfl ?_
    refine XS.iloadN X0.here hx rfl (hb hby at_6) rfl ?_
    show Steps p.tables e below (s₁.setTop (mkF m 7 #[.val (.int p0), .val (.int 3), .unset, .unset] [(.int 3)])) _
    refine XS.i2b X0.here hx rfl (hb hby at_7) rfl ?_
    show Steps p.tables e below (s₁.setTop (mkF m 8 #[.val (.int p0), .val (.int 3), .unset, .unset] [(.int ((3 : Int32).toInt8.toInt32))])) _
    rw [show ((3 : Int32).toInt8.toInt32) = (3 : Int32) from by decide]
    refine XS.istoreN X0.here hx rfl (hb hby at_8) rfl (l' := #[.val (.int p0), .val (.int 3), .val (.int 3), .unset]) rfl ?_
    refine XS.iloadN X0.here hx rfl (hb hby at_9) rfl ?_
    show Steps p.tables e below (s₁.setTop (mkF m 10 #[.val (.int p0), .val (.int 3), .val (.int 3), .unset] [(.int 3)])) _
    refine st1 _ ?_
    refine XS.astoreN X1.here hx rfl (hb hby at_13) rfl rfl (l' := #[.val (.int p0), .val (.int 3), .val (.int 3), .val (.ref a_COMPLETED)]) rfl ?_
    refine XS.aloadN X1.here hx rfl (hb hby at_14) rfl rfl ?_
    refine XS.iloadN X1.here hx rfl (hb hby at_15) rfl ?_
    show Steps p.tables e below (T1.setTop (mkF m 16 #[.val (.int p0), .val (.int 3), .val (.int 3), .val (.ref a_COMPLETED)] [(.int 3), (.ref a_COMPLETED)])) _
    refine st3 _ ?_
    show Steps p.tables e below (T3.setTop (mkF m 19 #[.val (.int p0), .val (.int 3), .val (.int 3), .val (.ref a_COMPLETED)] [(.ref a_COMPLETED), (.ref a_COMPLETED)])) _
    refine Jvm.RoadKit.acmp (g := (mkF m 19 #[.val (.int p0), .val (.int 3), .val (.int 3), .val (.ref a_COMPLETED)] [(.ref a_COMPLETED), (.ref a_COMPLETED)])) X3 hx rfl rfl rfl (pc0 := 19) (pc' := 22) (same := true) rfl (hb hby at_19) rfl (decide_eq_true rfl) (by decide) (by decide) ?_
    refine XS.aloadN X3.here hx rfl (hb hby at_22) rfl rfl ?_
    show Steps p.tables e below (T3.setTop (mkF m 23 #[.val (.int p0), .val (.int 3), .val (.int 3), .val (.ref a_COMPLETED)] [(.ref a_COMPLETED)])) _
    refine st5 _ ?_
    refine XS.iloadN X5.here hx rfl (hb hby at_26) rfl ?_
    refine XS.icmpNo X5.here hx rfl (hb hby at_27) rfl (by decide) ?_
    refine XS.iconst X5.here hx rfl (hb hby at_30) ?_
    refine XS.goto X5.here hx rfl (pc0 := 31) (pc' := 35) rfl (hb hby at_31) (by decide) (by decide) ?_
    show Steps p.tables e below (T5.setTop (mkF m 35 #[.val (.int p0), .val (.int 3), .val (.int 3), .val (.ref a_COMPLETED)] [(.int 1)])) _
    exact retN X5 hx (t := .boolean) Bd.returns (by simp) (hb hby at_35) hr
  · show QT n0 _ T5.heap _
    rw [e5]
    exact ⟨rfl, N3⟩
def Q1_49 (Z : State) (a_COMPENSATED : Addr) (h0 : Heap) (n0 : Nat) (v : Option Value) (h : Heap) (L : List Loc) : Prop := v = (some (.ref a_COMPENSATED)) ∧ Fr n0 L ∧ Keep h0 h []
set_option maxRecDepth 65536 in
set_option maxHeartbeats 40000000 in
theorem rm1_48 (l : Launch) (Z : State) (a0 : Array Value) (hw : ∀ d ∈ tables_1, d.before a0 Z = true) (ws : List Jvm.Cond) (a__VALUES : Addr) (kcl_VALUES : ClassId) (a_RUNNING : Addr) (a_COMPENSATING : Addr) (a_COMPLETED : Addr) (a_COMPENSATED : Addr) (h0 : Heap) (n0 : Nat) (Z0 : n0 ≤ h0.size) (f1 : S_0 Z h0 (.ref a__VALUES)) (f2 : Arv Z h0 a__VALUES kcl_VALUES (.object "com/example/knotwork/knotwork/store/SagaState") (4 : Int32) [(.ref a_RUNNING), (.ref a_COMPENSATING), (.ref a_COMPLETED), (.ref a_COMPENSATED)] .null) (f3 : E_0 Z h0 a__VALUES) (f4 : F_0 Z h0 a_RUNNING (.int 1)) (f5 : F_0 Z h0 a_COMPENSATING (.int 2)) (f6 : F_0 Z h0 a_COMPLETED (.int 3)) (f7 : F_0 Z h0 a_COMPENSATED (.int 4)) :
    MetFree l M_1 (head1 (Jvm.Cond.code M_1 prog_30_method_6_code 5 (some (.object "com/example/knotwork/knotwork/store/SagaState")) :: ws) R_2_1_4_25) (fun a U => a = #[(.int 4)] ∧ Z.Warmed39 U.vm ∧ U.heap = h0) (fun _ _ _ _ _ => True) (fun _ U o U' => ∃ v L, o = .returned v ∧ Q1_49 Z a_COMPENSATED h0 n0 v U'.heap L ∧ FrameEnd U o U' L R_2_1_4_25.cells R_2_1_4_25.slots) := by
  refine MetFree.of_bodySF (plainFor_of_name pn_com_example_knotwork_knotwork_store_SagaState) hisR ?_
  intro p e s m args below meth c s₁ Bd hml0 hP hK
  obtain ⟨rfl, hZ, hh⟩ := hP
  have hx := Bd.exec
  have hby := Bd.bytes
  have hml : c.maxLocals = 5 := hml0
  have hown : s.vm.findClass "com/example/knotwork/knotwork/store/SagaState" = some m.cls := findClass_of_methodNamed Bd.named
  have hnm := (name_of_methodNamed Bd.named Bd.method).1
  have X0 : Stand p l e R_2_1_4_25 s m #[(.int 4)] below meth c s₁ [] 0 0 := Stand.of_body Bd
  have e0 : s₁.heap = h0 := by rw [← hh, Bd.state]; rfl
  have N0 := Fr.nil n0
  -- pc 0: com/example/knotwork/knotwork/store/SagaState.values
  obtain ⟨_, _, ⟨T1, L1, k1, n1⟩, -, X1, ⟨Lc1, hQ1, l1, y1, z1⟩, st1⟩ := Jvm.LawKit.callS X0 hx (y := M_0) hown (mvT hZ (tw_4 hw)) (mvT hZ (tw_5 hw)) (mvT hZ (tw_2 hw)) (mvT hZ (tw_6 hw)) (by decide) (backOf (W := 0) (rm2_30 l Z a0 hw [] a__VALUES kcl_VALUES a_RUNNING a_COMPENSATING a_COMPLETED a_COMPENSATED h0 n0 Z0 f1 f2 f3) hZ (tw_6 hw) (tw_2 hw) (by decide) (by decide)) (g := (mkF m 0 #[.val (.int 4), .unset, .unset, .unset, .unset] [])) rfl (by rw [hml]; rfl) (argsL := []) (rest := []) (lenOf pd_0 rfl) rfl (by show 2 * 0 + _ ≤ _; exact Nat.le_of_eq rfl) (hb hby d1_0) (fun _ _ => ⟨rfl, e0, (by decide : 0 + 1 ≤ _), (by decide : 0 + 4 ≤ _)⟩)
  dsimp only [Pt.U, Pt.locs, Pt.cells, Pt.slots] at X1 l1 y1 z1 st1 hQ1
  subst l1 y1 z1
  obtain ⟨b47, rfl, Nq1, K1, le_b47, o1_0, o1_1⟩ := hQ1
  have N1 := Fr.app N0 Nq1
  have sz_b47 : h0.size ≤ b47 := Nat.le_trans (Nat.le_refl _) le_b47
  have g_b47 : n0 ≤ b47 := Nat.le_trans Z0 sz_b47
  have KK1 : Keep h0 T1.heap [] := (Keep.refl h0 []).trans K1 (fun x hx => nomatch hx)
  have va2 := o1_0
  obtain ⟨cl2, Ar2, -, S2, N2_, -, -⟩ := va2
  have va3 := o1_0
  obtain ⟨cl3, Ar3, -, S3, -, H3, -⟩ := va3
  have hin3 : ¬ ((0 : Int32) < 0 ∨ cl3.slots.size ≤ ((0 : Int32)).toNatClampNeg) := inb_of S3 ⟨by decide, by decide⟩
  have hat3 : cl3.slots[((0 : Int32)).toNatClampNeg]? = some (.ref a_RUNNING) := H3 _ (Nat.lt_of_not_le fun y => hin3 (Or.inr y))
  have u4 : F_0 Z T1.heap a_RUNNING (.int 1) := Fld.keep f4 K1 List.not_mem_nil
  obtain ⟨T5, X5, e5, st5⟩ := getF X1 hx hZ hown (host := "") (Or.inl (tw_23 hw)) Via.refl rfl u4 (g := (mkF m 21 #[.val (.int 4), .val (.ref b47), .val (.int 4), .val (.int 0), .val (.ref a_RUNNING)] [(.ref a_RUNNING)])) rfl rfl (hb hby d1_21)
  have va6 := o1_0
  obtain ⟨cl6, Ar6, -, S6, -, H6, -⟩ := va6
  have hin6 : ¬ ((1 : Int32) < 0 ∨ cl6.slots.size ≤ ((1 : Int32)).toNatClampNeg) := inb_of S6 ⟨by decide, by decide⟩
  have hat6 : cl6.slots[((1 : Int32)).toNatClampNeg]? = some (.ref a_COMPENSATING) := H6 _ (Nat.lt_of_not_le fun y => hin6 (Or.inr y))
  have u7 : F_0 Z T1.heap a_COMPENSATING (.int 2) := Fld.keep f5 K1 List.not_mem_nil
  obtain ⟨T8, X8, e8, st8⟩ := getF X5 hx hZ hown (host := "") (Or.inl (tw_23 hw)) Via.refl e5 u7 (g := (mkF m 21 #[.val (.int 4), .val (.ref b47), .val (.int 4), .val (.int 1), .val (.ref a_COMPENSATING)] [(.ref a_COMPENSATING)])) rfl rfl (hb hby d1_21)
  have va9 := o1_0
  obtain ⟨cl9, Ar9, -, S9, -, H9, -⟩ := va9
  have hin9 : ¬ ((2 : Int32) < 0 ∨ cl9.slots.size ≤ ((2 : Int32)).toNatClampNeg) := inb_of S9 ⟨by decide, by decide⟩
  have hat9 : cl9.slots[((2 : Int32)).toNatClampNeg]? = some (.ref a_COMPLETED) := H9 _ (Nat.lt_of_not_le fun y => hin9 (Or.inr y))
  have u10 : F_0 Z T1.heap a_COMPLETED (.int 3) := Fld.keep f6 K1 List.not_mem_nil
  obtain ⟨T11, X11, e11, st11⟩ := getF X8 hx hZ hown (host := "") (Or.inl (tw_23 hw)) Via.refl e8 u10 (g := (mkF m 21 #[.val (.int 4), .val (.ref b47), .val (.int 4), .val (.int 2), .val (.ref a_COMPLETED)] [(.ref a_COMPLETED)])) rfl rfl (hb hby d1_21)
  have va12 := o1_0
  obtain ⟨cl12, Ar12, -, S12, -, H12, -⟩ := va12
  have hin12 : ¬ ((3 : Int32) < 0 ∨ cl12.slots.size ≤ ((3 : Int32)).toNatClampNeg) := inb_of S12 ⟨by decide, by decide⟩
  have hat12 : cl12.slots[((3 : Int32)).toNatClampNeg]? = some (.ref a_COMPENSATED) := H12 _ (Nat.lt_of_not_le fun y => hin12 (Or.inr y))
  have u13 : F_0 Z T1.heap a_COMPENSATED (.int 4) := Fld.keep f7 K1 List.not_mem_nil
  obtain ⟨T14, X14, e14, st14⟩ := getF X11 hx hZ hown (host := "") (Or.inl (tw_23 hw)) Via.refl e11 u13 (g := (mkF m 21 #[.val (.int 4), .val (.ref b47), .val (.int 4), .val (.int 3), .val (.ref a_COMPENSATED)] [(.ref a_COMPENSATED)])) rfl rfl (hb hby d1_21)
  obtain ⟨fs, hr, hrun, hended, hW, hsame⟩ := X14.leave (v := (some (.ref a_COMPENSATED))) (fun h => by rw [Bd.returns] at h; cases h)
  refine ⟨_, _, castTop (ef1_I m (4 : Int32)) ?_, hrun, hended, _, _, rfl, ?_, ⟨_, rfl⟩, hW, hsame.mono (by decide) (by decide)⟩
  · show Steps p.tables e below (s₁.setTop (mkF m 0 #[.val (.int 4), .unset, .unset, .unset, .unset] [])) _
    refine st1 _ ?_
    refine XS.astoreN X1.here hx rfl (hb hby d1_3) rfl rfl (l' := #[.val (.int 4), .val (.ref b47), .unset, .unset, .unset]) rfl ?_
    refine XS.aloadN X1.here hx rfl (hb hby d1_4) rfl rfl ?_
    show Steps p.tables e below (T1.setTop (mkF m 5 #[.val (.int 4), .val (.ref b47), .unset, .unset, .unset] [(.ref b47)])) _
    refine X1.arraylength hx (by exact Ar2.1) (State.isArrayOf_alike hZ.alike Ar2.2.1) (g := (mkF m 5 #[.val (.int 4), .val (.ref b47), .unset, .unset, .unset] [(.ref b47)])) rfl rfl (hb hby d1_5) _ ?_
    rw [len_of S2 N2_]
    refine XS.istoreN X1.here hx rfl (hb hby d1_6) rfl (l' := #[.val (.int 4), .val (.ref b47), .val (.int 4), .unset, .unset]) rfl ?_
    refine XS.iconst X1.here hx rfl (hb hby d1_7) ?_
    refine XS.istoreN X1.here hx rfl (hb hby d1_8) rfl (l' := #[.val (.int 4), .val (.ref b47), .val (.int 4), .val (.int 0), .unset]) rfl ?_
    refine XS.iloadN X1.here hx rfl (hb hby d1_9) rfl ?_
    show Steps p.tables e below (T1.setTop (mkF m 10 #[.val (.int 4), .val (.ref b47), .val (.int 4), .val (.int 0), .unset] [(.int 0)])) _
    refine XS.iloadN X1.here hx rfl (hb hby d1_10) rfl ?_
    refine XS.icmpNo X1.here hx rfl (hb hby d1_11) rfl (by decide) ?_
    refine XS.aloadN X1.here hx rfl (hb hby d1_14) rfl rfl ?_
    refine XS.iloadN X1.here hx rfl (hb hby d1_15) rfl ?_
    show Steps p.tables e below (T1.setTop (mkF m 16 #[.val (.int 4), .val (.ref b47), .val (.int 4), .val (.int 0), .unset] [(.int 0), (.ref b47)])) _
    refine X1.aaload hx (j := (0 : Int32)) (v := (.ref a_RUNNING)) (by exact Ar3.1) (State.isArrayOf_alike hZ.alike Ar3.2.1) rfl Ar3.2.2 hin3 hat3 (g := (mkF m 16 #[.val (.int 4), .val (.ref b47), .val (.int 4), .val (.int 0), .unset] [(.int 0), (.ref b47)])) rfl rfl (hb hby d1_16) _ ?_
    refine XS.astore X1.here hx rfl (hb hby d1_17) rfl rfl (l' := #[.val (.int 4), .val (.ref b47), .val (.int 4), .val (.int 0), .val (.ref a_RUNNING)]) rfl ?_
    refine XS.aload X1.here hx rfl (hb hby d1_19) rfl rfl ?_
    show Steps p.tables e below (T1.setTop (mkF m 21 #[.val (.int 4), .val (.ref b47), .val (.int 4), .val (.int 0), .val (.ref a_RUNNING)] [(.ref a_RUNNING)])) _
    refine st5 _ ?_
    refine XS.iloadN X5.here hx rfl (hb hby d1_24) rfl ?_
    refine XS.icmpYes X5.here hx rfl (pc0 := 25) (pc' := 31) rfl (hb hby d1_25) rfl (by decide) (by decide) (by decide) ?_
    show Steps p.tables e below (T5.setTop (mkF m 31 #[.val (.int 4), .val (.ref b47), .val (.int 4), .val (.int 0), .val (.ref a_RUNNING)] [])) _
    refine XS.iinc X5.here hx rfl (hb hby d1_31) rfl (l' := #[.val (.int 4), .val (.ref b47), .val (.int 4), .val (.int ((0 : Int32) + (1 : Int32))), .val (.ref a_RUNNING)]) rfl ?_
    show Steps p.tables e below (T5.setTop (mkF m 34 #[.val (.int 4), .val (.ref b47), .val (.int 4), .val (.int ((0 : Int32) + (1 : Int32))), .val (.ref a_RUNNING)] [])) _
    rw [show ((0 : Int32) + (1 : Int32)) = (1 : Int32) from by decide]
    refine XS.goto X5.here hx rfl (pc0 := 34) (pc' := 9) rfl (hb hby d1_34) (by decide) (by decide) ?_
    refine XS.iloadN X5.here hx rfl (hb hby d1_9) rfl ?_
    refine XS.iloadN X5.here hx rfl (hb hby d1_10) rfl ?_
    refine XS.icmpNo X5.here hx rfl (hb hby d1_11) rfl (by decide) ?_
    show Steps p.tables e below (T5.setTop (mkF m 14 #[.val (.int 4), .val (.ref b47), .val (.int 4), .val (.int 1), .val (.ref a_RUNNING)] [])) _
    refine XS.aloadN X5.here hx rfl (hb hby d1_14) rfl rfl ?_
    refine XS.iloadN X5.here hx rfl (hb hby d1_15) rfl ?_
    show Steps p.tables e below (T5.setTop (mkF m 16 #[.val (.int 4), .val (.ref b47), .val (.int 4), .val (.int 1), .val (.ref a_RUNNING)] [(.int 1), (.ref b47)])) _
    refine X5.aaload hx (j := (1 : Int32)) (v := (.ref a_COMPENSATING)) (by rw [e5]; exact Ar6.1) (State.isArrayOf_alike hZ.alike Ar6.2.1) rfl Ar6.2.2 hin6 hat6 (g := (mkF m 16 #[.val (.int 4), .val (.ref b47), .val (.int 4), .val (.int 1), .val (.ref a_RUNNING)] [(.int 1), (.ref b47)])) rfl rfl (hb hby d1_16) _ ?_
    refine XS.astore X5.here hx rfl (hb hby d1_17) rfl rfl (l' := #[.val (.int 4), .val (.ref b47), .val (.int 4), .val (.int 1), .val (.ref a_COMPENSATING)]) rfl ?_
    refine XS.aload X5.here hx rfl (hb hby d1_19) rfl rfl ?_
    show Steps p.tables e below (T5.setTop (mkF m 21 #[.val (.int 4), .val (.ref b47), .val (.int 4), .val (.int 1), .val (.ref a_COMPENSATING)] [(.ref a_COMPENSATING)])) _
    refine st8 _ ?_
    refine XS.iloadN X8.here hx rfl (hb hby d1_24) rfl ?_
    refine XS.icmpYes X8.here hx rfl (pc0 := 25) (pc' := 31) rfl (hb hby d1_25) rfl (by decide) (by decide) (by decide) ?_
    show Steps p.tables e below (T8.setTop (mkF m 31 #[.val (.int 4), .val (.ref b47), .val (.int 4), .val (.int 1), .val (.ref a_COMPENSATING)] [])) _
    refine XS.iinc X8.here hx rfl (hb hby d1_31) rfl (l' := #[.val (.int 4), .val (.ref b47), .val (.int 4), .val (.int ((1 : Int32) + (1 : Int32))), .val (.ref a_COMPENSATING)]) rfl ?_
    show Steps p.tables e below (T8.setTop (mkF m 34 #[.val (.int 4), .val (.ref b47), .val (.int 4), .val (.int ((1 : Int32) + (1 : Int32))), .val (.ref a_COMPENSATING)] [])) _
    rw [show ((1 : Int32) + (1 : Int32)) = (2 : Int32) from by decide]
    refine XS.goto X8.here hx rfl (pc0 := 34) (pc' := 9) rfl (hb hby d1_34) (by decide) (by decide) ?_
    refine XS.iloadN X8.here hx rfl (hb hby d1_9) rfl ?_
    refine XS.iloadN X8.here hx rfl (hb hby d1_10) rfl ?_
    refine XS.icmpNo X8.here hx rfl (hb hby d1_11) rfl (by decide) ?_
    show Steps p.tables e below (T8.setTop (mkF m 14 #[.val (.int 4), .val (.ref b47), .val (.int 4), .val (.int 2), .val (.ref a_COMPENSATING)] [])) _
    refine XS.aloadN X8.here hx rfl (hb hby d1_14) rfl rfl ?_
    refine XS.iloadN X8.here hx rfl (hb hby d1_15) rfl ?_
    show Steps p.tables e below (T8.setTop (mkF m 16 #[.val (.int 4), .val (.ref b47), .val (.int 4), .val (.int 2), .val (.ref a_COMPENSATING)] [(.int 2), (.ref b47)])) _
    refine X8.aaload hx (j := (2 : Int32)) (v := (.ref a_COMPLETED)) (by rw [e8]; exact Ar9.1) (State.isArrayOf_alike hZ.alike Ar9.2.1) rfl Ar9.2.2 hin9 hat9 (g := (mkF m 16 #[.val (.int 4), .val (.ref b47), .val (.int 4), .val (.int 2), .val (.ref a_COMPENSATING)] [(.int 2), (.ref b47)])) rfl rfl (hb hby d1_16) _ ?_
    refine XS.astore X8.here hx rfl (hb hby d1_17) rfl rfl (l' := #[.val (.int 4), .val (.ref b47), .val (.int 4), .val (.int 2), .val (.ref a_COMPLETED)]) rfl ?_
    refine XS.aload X8.here hx rfl (hb hby d1_19) rfl rfl ?_
    show Steps p.tables e below (T8.setTop (mkF m 21 #[.val (.int 4), .val (.ref b47), .val (.int 4), .val (.int 2), .val (.ref a_COMPLETED)] [(.ref a_COMPLETED)])) _
    refine st11 _ ?_
    refine XS.iloadN X11.here hx rfl (hb hby d1_24) rfl ?_
    refine XS.icmpYes X11.here hx rfl (pc0 := 25) (pc' := 31) rfl (hb hby d1_25) rfl (by decide) (by decide) (by decide) ?_
    show Steps p.tables e below (T11.setTop (mkF m 31 #[.val (.int 4), .val (.ref b47), .val (.int 4), .val (.int 2), .val (.ref a_COMPLETED)] [])) _
    refine XS.iinc X11.here hx rfl (hb hby d1_31) rfl (l' := #[.val (.int 4), .val (.ref b47), .val (.int 4), .val (.int ((2 : Int32) + (1 : Int32))), .val (.ref a_COMPLETED)]) rfl ?_
    show Steps p.tables e below (T11.setTop (mkF m 34 #[.val (.int 4), .val (.ref b47), .val (.int 4), .val (.int ((2 : Int32) + (1 : Int32))), .val (.ref a_COMPLETED)] [])) _
    rw [show ((2 : Int32) + (1 : Int32)) = (3 : Int32) from by decide]
    refine XS.goto X11.here hx rfl (pc0 := 34) (pc' := 9) rfl (hb hby d1_34) (by decide) (by decide) ?_
    refine XS.iloadN X11.here hx rfl (hb hby d1_9) rfl ?_
    refine XS.iloadN X11.here hx rfl (hb hby d1_10) rfl ?_
    refine XS.icmpNo X11.here hx rfl (hb hby d1_11) rfl (by decide) ?_
    show Steps p.tables e below (T11.setTop (mkF m 14 #[.val (.int 4), .val (.ref b47), .val (.int 4), .val (.int 3), .val (.ref a_COMPLETED)] [])) _
    refine XS.aloadN X11.here hx rfl (hb hby d1_14) rfl rfl ?_
    refine XS.iloadN X11.here hx rfl (hb hby d1_15) rfl ?_
    show Steps p.tables e below (T11.setTop (mkF m 16 #[.val (.int 4), .val (.ref b47), .val (.int 4), .val (.int 3), .val (.ref a_COMPLETED)] [(.int 3), (.ref b47)])) _
    refine X11.aaload hx (j := (3 : Int32)) (v := (.ref a_COMPENSATED)) (by rw [e11]; exact Ar12.1) (State.isArrayOf_alike hZ.alike Ar12.2.1) rfl Ar12.2.2 hin12 hat12 (g := (mkF m 16 #[.val (.int 4), .val (.ref b47), .val (.int 4), .val (.int 3), .val (.ref a_COMPLETED)] [(.int 3), (.ref b47)])) rfl rfl (hb hby d1_16) _ ?_
    refine XS.astore X11.here hx rfl (hb hby d1_17) rfl rfl (l' := #[.val (.int 4), .val (.ref b47), .val (.int 4), .val (.int 3), .val (.ref a_COMPENSATED)]) rfl ?_
    refine XS.aload X11.here hx rfl (hb hby d1_19) rfl rfl ?_
    show Steps p.tables e below (T11.setTop (mkF m 21 #[.val (.int 4), .val (.ref b47), .val (.int 4), .val (.int 3), .val (.ref a_COMPENSATED)] [(.ref a_COMPENSATED)])) _
    refine st14 _ ?_
    refine XS.iloadN X14.here hx rfl (hb hby d1_24) rfl ?_
    refine XS.icmpNo X14.here hx rfl (hb hby d1_25) rfl (by decide) ?_
    refine XS.aload X14.here hx rfl (hb hby d1_28) rfl rfl ?_
    show Steps p.tables e below (T14.setTop (mkF m 30 #[.val (.int 4), .val (.ref b47), .val (.int 4), .val (.int 3), .val (.ref a_COMPENSATED)] [(.ref a_COMPENSATED)])) _
    jvm_step X14.here [X14.here.top, hx, (hb hby d1_30), X14.method', Bd.returns, Value.isRef, FieldType.isReference]
    first | (intro acts; rw [hr _ acts rfl rfl rfl]) | rw [hr _ _ rfl rfl rfl]
    exact Steps.refl _
  · show Q1_49 Z a_COMPENSATED h0 n0 _ T14.heap _
    rw [e14]
    exact ⟨rfl, N1, KK1⟩
theorem d3_27 : decode method_2_code 27 = .ok (.getstatic 19, 3) := by decide +kernel
theorem tw_31 {a0 : Array Value} {Z : State} (hw : ∀ d ∈ tables_1, d.before a0 Z = true) : (Jvm.Cond.fieldLink "com/example/knotwork/knotwork/store/SagaStateOfCodePinLaw" (19 : Nat) "com/example/knotwork/knotwork/store/SagaState" "COMPENSATED" "Lcom/example/knotwork/knotwork/store/SagaState;").before a0 Z = true := hw _ (List.mem_of_getElem? (i := 31) rfl)
theorem d3_30 : decode method_2_code 30 = .ok (.areturn, 1) := by decide +kernel
set_option maxRecDepth 65536 in
set_option maxHeartbeats 40000000 in
theorem rm3_50 (l : Launch) (Z : State) (a0 : Array Value) (hw : ∀ d ∈ tables_1, d.before a0 Z = true) (ws : List Jvm.Cond) (a_COMPENSATED : Addr) (h0 : Heap) (n0 : Nat) (Z0 : n0 ≤ h0.size) (f1 : S_4 Z h0 (.ref a_COMPENSATED)) :
    MetFree l M_2 (head1 (Jvm.Cond.code M_2 method_2_code 1 (some (.object "com/example/knotwork/knotwork/store/SagaState")) :: ws) R_0_0_0_0) (fun a U => a = #[(.int 4)] ∧ Z.Warmed39 U.vm ∧ U.heap = h0) (fun _ _ _ _ _ => True) (fun _ U o U' => ∃ v L, o = .returned v ∧ QP (some (.ref a_COMPENSATED)) h0 n0 v U'.heap L ∧ FrameEnd U o U' L R_0_0_0_0.cells R_0_0_0_0.slots) := by
  refine MetFree.of_bodySF (plainFor_of_name pn_com_example_knotwork_knotwork_store_SagaStateOfCodePinLaw) hisR ?_
  intro p e s m args below meth c s₁ Bd hml0 hP hK
  obtain ⟨rfl, hZ, hh⟩ := hP
  have hx := Bd.exec
  have hby := Bd.bytes
  have hml : c.maxLocals = 1 := hml0
  have hown : s.vm.findClass "com/example/knotwork/knotwork/store/SagaStateOfCodePinLaw" = some m.cls := findClass_of_methodNamed Bd.named
  have hnm := (name_of_methodNamed Bd.named Bd.method).1
  have X0 : Stand p l e R_0_0_0_0 s m #[(.int 4)] below meth c s₁ [] 0 0 := Stand.of_body Bd
  have e0 : s₁.heap = h0 := by rw [← hh, Bd.state]; rfl
  have N0 := Fr.nil n0
  obtain ⟨T1, X1, e1, st1⟩ := getS2 X0 hx hZ hown (host := "") (Or.inl (tw_31 hw)) Via.refl e0 f1 (g := (mkF m 27 #[.val (.int 4)] [])) rfl (hb hby d3_27)
  obtain ⟨fs, hr, hrun, hended, hW, hsame⟩ := X1.leave (v := (some (.ref a_COMPENSATED))) (fun h => by rw [Bd.returns] at h; cases h)
  refine ⟨_, _, castTop (ef3_I m (4 : Int32)) ?_, hrun, hended, _, _, rfl, ?_, ⟨_, rfl⟩, hW, hsame.mono (by decide) (by decide)⟩
  · show Steps p.tables e below (s₁.setTop (mkF m 0 #[.val (.int 4)] [])) _
    refine XS.iloadN X0.here hx rfl (hb hby d3_0) rfl ?_
    refine XS.iconst X0.here hx rfl (hb hby d3_1) ?_
    refine XS.icmpYes X0.here hx rfl (pc0 := 2) (pc' := 9) rfl (hb hby d3_2) rfl (by decide) (by decide) (by decide) ?_
    refine XS.iloadN X0.here hx rfl (hb hby d3_9) rfl ?_
    refine XS.iconst X0.here hx rfl (hb hby d3_10) ?_
    show Steps p.tables e below (s₁.setTop (mkF m 11 #[.val (.int 4)] [(.int 2), (.int 4)])) _
    refine XS.icmpYes X0.here hx rfl (pc0 := 11) (pc' := 18) rfl (hb hby d3_11) rfl (by decide) (by decide) (by decide) ?_
    refine XS.iloadN X0.here hx rfl (hb hby d3_18) rfl ?_
    refine XS.iconst X0.here hx rfl (hb hby d3_19) ?_
    refine XS.icmpYes X0.here hx rfl (pc0 := 20) (pc' := 27) rfl (hb hby d3_20) rfl (by decide) (by decide) (by decide) ?_
    show Steps p.tables e below (s₁.setTop (mkF m 27 #[.val (.int 4)] [])) _
    refine st1 _ ?_
    show Steps p.tables e below (T1.setTop (mkF m 30 #[.val (.int 4)] [(.ref a_COMPENSATED)])) _
    jvm_step X1.here [X1.here.top, hx, (hb hby d3_30), X1.method', Bd.returns, Value.isRef, FieldType.isReference]
    first | (intro acts; rw [hr _ acts rfl rfl rfl]) | rw [hr _ _ rfl rfl rfl]
    exact Steps.refl _
  · show QP (some (.ref a_COMPENSATED)) h0 n0 _ T1.heap _
    rw [e1]
    exact ⟨rfl, N0, rfl⟩
set_option maxRecDepth 65536 in
set_option maxHeartbeats 40000000 in
theorem rm0_51 (l : Launch) (Z : State) (a0 : Array Value) (hw : ∀ d ∈ tables_1, d.before a0 Z = true) (ws : List Jvm.Cond) (p0 : Int32) (a__VALUES : Addr) (kcl_VALUES : ClassId) (a_RUNNING : Addr) (a_COMPENSATING : Addr) (a_COMPLETED : Addr) (a_COMPENSATED : Addr) (h0 : Heap) (n0 : Nat) (Z0 : n0 ≤ h0.size) (f1 : (p0 &&& (3 : Int32)) = (3 : Int32)) (f2 : S_0 Z h0 (.ref a__VALUES)) (f3 : Arv Z h0 a__VALUES kcl_VALUES (.object "com/example/knotwork/knotwork/store/SagaState") (4 : Int32) [(.ref a_RUNNING), (.ref a_COMPENSATING), (.ref a_COMPLETED), (.ref a_COMPENSATED)] .null) (f4 : E_0 Z h0 a__VALUES) (f5 : F_0 Z h0 a_RUNNING (.int 1)) (f6 : F_0 Z h0 a_COMPENSATING (.int 2)) (f7 : F_0 Z h0 a_COMPLETED (.int 3)) (f8 : F_0 Z h0 a_COMPENSATED (.int 4)) (f9 : S_4 Z h0 (.ref a_COMPENSATED)) :
    MetFree l x (head1 (Jvm.Cond.code x code maxLocals ret :: ws) room_1) (fun a U => a = #[(.int p0)] ∧ Z.Warmed39 U.vm ∧ U.heap = h0) (fun _ _ _ _ _ => True) (fun _ U o U' => ∃ v L, o = .returned v ∧ QT n0 v U'.heap L ∧ FrameEnd U o U' L room_1.cells room_1.slots) := by
  refine MetFree.of_bodySF (plainFor_of_name pn_com_example_knotwork_knotwork_store_SagaStateOfCodePinLaw) hisR ?_
  intro p e s m args below meth c s₁ Bd hml0 hP hK
  obtain ⟨rfl, hZ, hh⟩ := hP
  have hx := Bd.exec
  have hby := Bd.bytes
  have hml : c.maxLocals = 4 := hml0
  have hown : s.vm.findClass "com/example/knotwork/knotwork/store/SagaStateOfCodePinLaw" = some m.cls := findClass_of_methodNamed Bd.named
  have hnm := (name_of_methodNamed Bd.named Bd.method).1
  have X0 : Stand p l e room_1 s m #[(.int p0)] below meth c s₁ [] 0 0 := Stand.of_body Bd
  have e0 : s₁.heap = h0 := by rw [← hh, Bd.state]; rfl
  have N0 := Fr.nil n0
  -- pc 10: com/example/knotwork/knotwork/store/SagaState.ofCode
  obtain ⟨_, _, ⟨T1, L1, k1, n1⟩, -, X1, ⟨Lc1, hQ1, l1, y1, z1⟩, st1⟩ := Jvm.LawKit.callS X0 hx (y := M_1) hown (mvT hZ (tw_0 hw)) (mvT hZ (tw_1 hw)) (mvT hZ (tw_2 hw)) (mvT hZ (tw_3 hw)) (by decide) (backOf (W := 0) (rm1_48 l Z a0 hw [] a__VALUES kcl_VALUES a_RUNNING a_COMPENSATING a_COMPLETED a_COMPENSATED h0 n0 Z0 f2 f3 f4 f5 f6 f7 f8) hZ (tw_3 hw) (tw_2 hw) (by decide) (by decide)) (g := (mkF m 10 #[.val (.int p0), .val (.int 4), .val (.int 4), .unset] [(.int 4)])) rfl (by rw [hml]; rfl) (argsL := [(.int 4)]) (rest := []) (lenOf pd_1 rfl) rfl (by show 2 * 0 + _ ≤ _; exact Nat.le_of_eq rfl) (hb hby at_10) (fun _ _ => ⟨rfl, e0, (by decide : 0 + 1 ≤ _), (by decide : 0 + 4 ≤ _)⟩)
  dsimp only [Pt.U, Pt.locs, Pt.cells, Pt.slots] at X1 l1 y1 z1 st1 hQ1
  subst l1 y1 z1
  obtain ⟨rfl, Nq1, K1⟩ := hQ1
  have N1 := Fr.app N0 Nq1
  have KK1 : Keep h0 T1.heap [] := (Keep.refl h0 []).trans K1 (fun x hx => nomatch hx)
  -- pc 16: com/example/knotwork/knotwork/store/SagaStateOfCodePinLaw.expected
  have u2 : S_4 Z T1.heap (.ref a_COMPENSATED) := own_sta_keep f9 K1 (fun _ q => nomatch q)
  obtain ⟨_, _, ⟨T3, L3, k3, n3⟩, -, X3, ⟨Lc3, hQ3, l3, y3, z3⟩, st3⟩ := Jvm.LawKit.callS X1 hx (y := M_2) hown (mvT hZ (tw_25 hw)) (mvT hZ (tw_26 hw)) (mvT hZ (tw_27 hw)) (mvT hZ (tw_28 hw)) (by decide) (backOf (W := 1) (rm3_50 l Z a0 hw [] a_COMPENSATED T1.heap n0 (Nat.le_trans Z0 KK1.1) u2) hZ (tw_28 hw) (tw_27 hw) (by decide) (by decide)) (g := (mkF m 16 #[.val (.int p0), .val (.int 4), .val (.int 4), .val (.ref a_COMPENSATED)] [(.int 4), (.ref a_COMPENSATED)])) rfl (by rw [hml]; rfl) (argsL := [(.int 4)]) (rest := [(.ref a_COMPENSATED)]) (lenOf pd_2 rfl) rfl (by show 2 * 0 + _ ≤ _; exact Nat.le_of_eq rfl) (hb hby at_16) (fun _ _ => ⟨rfl, rfl, (by decide : 1 + 0 ≤ _), (by decide : 4 + 0 ≤ _)⟩)
  dsimp only [Pt.U, Pt.locs, Pt.cells, Pt.slots] at X3 l3 y3 z3 st3 hQ3
  subst l3 y3 z3
  obtain ⟨rfl, Nq3, e3⟩ := hQ3
  have N3 := Fr.app N1 Nq3
  have u4 : F_0 Z T1.heap a_COMPENSATED (.int 4) := Fld.keep f8 K1 List.not_mem_nil
  obtain ⟨T5, X5, e5, st5⟩ := getF X3 hx hZ hown (host := "") (Or.inl (tw_30 hw)) Via.refl e3 u4 (g := (mkF m 23 #[.val (.int p0), .val (.int 4), .val (.int 4), .val (.ref a_COMPENSATED)] [(.ref a_COMPENSATED)])) rfl rfl (hb hby at_23)
  obtain ⟨fs, hr, hrun, hended, hW, hsame⟩ := X5.leave (v := (some (.int 1))) (fun h => by rw [Bd.returns] at h; cases h)
  refine ⟨_, _, castTop (ef0_I m p0) ?_, hrun, hended, _, _, rfl, ?_, ⟨_, rfl⟩, hW, hsame.mono (by decide) (by decide)⟩
  · show Steps p.tables e below (s₁.setTop (mkF m 0 #[.val (.int p0), .unset, .unset, .unset] [])) _
    refine XS.iloadN X0.here hx rfl (hb hby at_0) rfl ?_
    refine XS.iconst X0.here hx rfl (hb hby at_1) ?_
    show Steps p.tables e below (s₁.setTop (mkF m 2 #[.val (.int p0), .unset, .unset, .unset] [(.int 3), (.int p0)])) _
    refine XS.iand X0.here hx rfl (hb hby at_2) rfl ?_
    show Steps p.tables e below (s₁.setTop (mkF m 3 #[.val (.int p0), .unset, .unset, .unset] [(.int (p0 &&& (3 : Int32)))])) _
    rw [f1]
    refine XS.iconst X0.here hx rfl (hb hby at_3) ?_
    show Steps p.tables e below (s₁.setTop (mkF m 4 #[.val (.int p0), .unset, .unset, .unset] [(.int 1), (.int 3)])) _
    refine XS.iadd X0.here hx rfl (hb hby at_4) rfl ?_
    show Steps p.tables e below (s₁.setTop (mkF m 5 #[.val (.int p0), .unset, .unset, .unset] [(.int ((3 : Int32) + (1 : Int32)))])) _
    rw [show ((3 : Int32) + (1 : Int32)) = (4 : Int32) from by decide]
    refine XS.istoreN X0.here hx rfl (hb hby at_5) rfl (l' := #[.val (.int p0), .val (.int 4), .unset, .unset]) rfl ?_
    refine XS.iloadN X0.here hx rfl (hb hby at_6) rfl ?_
    show Steps p.tables e below (s₁.setTop (mkF m 7 #[.val (.int p0), .val (.int 4), .unset, .unset] [(.int 4)])) _
    refine XS.i2b X0.here hx rfl (hb hby at_7) rfl ?_
    show Steps p.tables e below (s₁.setTop (mkF m 8 #[.val (.int p0), .val (.int 4), .unset, .unset] [(.int ((4 : Int32).toInt8.toInt32))])) _
    rw [show ((4 : Int32).toInt8.toInt32) = (4 : Int32) from by decide]
    refine XS.istoreN X0.here hx rfl (hb hby at_8) rfl (l' := #[.val (.int p0), .val (.int 4), .val (.int 4), .unset]) rfl ?_
    refine XS.iloadN X0.here hx rfl (hb hby at_9) rfl ?_
    show Steps p.tables e below (s₁.setTop (mkF m 10 #[.val (.int p0), .val (.int 4), .val (.int 4), .unset] [(.int 4)])) _
    refine st1 _ ?_
    refine XS.astoreN X1.here hx rfl (hb hby at_13) rfl rfl (l' := #[.val (.int p0), .val (.int 4), .val (.int 4), .val (.ref a_COMPENSATED)]) rfl ?_
    refine XS.aloadN X1.here hx rfl (hb hby at_14) rfl rfl ?_
    refine XS.iloadN X1.here hx rfl (hb hby at_15) rfl ?_
    show Steps p.tables e below (T1.setTop (mkF m 16 #[.val (.int p0), .val (.int 4), .val (.int 4), .val (.ref a_COMPENSATED)] [(.int 4), (.ref a_COMPENSATED)])) _
    refine st3 _ ?_
    show Steps p.tables e below (T3.setTop (mkF m 19 #[.val (.int p0), .val (.int 4), .val (.int 4), .val (.ref a_COMPENSATED)] [(.ref a_COMPENSATED), (.ref a_COMPENSATED)])) _
    refine Jvm.RoadKit.acmp (g := (mkF m 19 #[.val (.int p0), .val (.int 4), .val (.int 4), .val (.ref a_COMPENSATED)] [(.ref a_COMPENSATED), (.ref a_COMPENSATED)])) X3 hx rfl rfl rfl (pc0 := 19) (pc' := 22) (same := true) rfl (hb hby at_19) rfl (decide_eq_true rfl) (by decide) (by decide) ?_
    refine XS.aloadN X3.here hx rfl (hb hby at_22) rfl rfl ?_
    show Steps p.tables e below (T3.setTop (mkF m 23 #[.val (.int p0), .val (.int 4), .val (.int 4), .val (.ref a_COMPENSATED)] [(.ref a_COMPENSATED)])) _
    refine st5 _ ?_
    refine XS.iloadN X5.here hx rfl (hb hby at_26) rfl ?_
    refine XS.icmpNo X5.here hx rfl (hb hby at_27) rfl (by decide) ?_
    refine XS.iconst X5.here hx rfl (hb hby at_30) ?_
    refine XS.goto X5.here hx rfl (pc0 := 31) (pc' := 35) rfl (hb hby at_31) (by decide) (by decide) ?_
    show Steps p.tables e below (T5.setTop (mkF m 35 #[.val (.int p0), .val (.int 4), .val (.int 4), .val (.ref a_COMPENSATED)] [(.int 1)])) _
    exact retN X5 hx (t := .boolean) Bd.returns (by simp) (hb hby at_35) hr
  · show QT n0 _ T5.heap _
    rw [e5]
    exact ⟨rfl, N3⟩
set_option maxRecDepth 65536 in
set_option maxHeartbeats 40000000 in
theorem comes_1 {Post : Tables → Env → Array Value → State → Outcome → State → Prop} (hpost : ∀ tb e args s v u, (limb_1_1.after args s (.returned v) u = true ∧ limb_1_2.after args s (.returned v) u = true ∧ True) → FrameEnd s (.returned v) u (Jvm.fieldLocs frame_1_writes args s ++ Jvm.arrayLocs frame_1_arrays args s ++ Jvm.staticLocs frame_1_statics s) 16 128 → Post tb e args s (.returned v) u) :
    ArmFor flags0 classFile x code maxLocals ret World_1 tables_1 room_1 Calls_1 rest_1 Pre_1 Post := by
  intro l hfl _ _ p e ha hc hk s m args below hf hA hF happ hP
  obtain ⟨hcalls, hrest, hpre⟩ := hP
  obtain ⟨-, -, -, hnamed, -, -, -, hat⟩ := (Spec.applies_iff hf).mp happ
  obtain ⟨hg, hn⟩ := and_e (Cond.before_iff.mp (show (Jvm.Cond.and given_1 narrow_1).before args s = true from hpre))
  obtain ⟨k52, k53⟩ := and_e hg
  obtain ⟨w0, rfl⟩ : ∃ w0 : Value, args = #[w0] := by
    have hs : args.size = 1 := by simpa [Cond.value, given_1] using k52
    obtain ⟨L⟩ := args
    match L, hs with
    | [w0], _ => exact ⟨w0, rfl⟩
  have hw := fun d (hd : d ∈ tables_1) => atoms_spec (ws := Jvm.Cond.code x code maxLocals ret :: tables_1) hat d (List.mem_cons_of_mem _ hd)
  have hfit : Fit s := fun {y c} hc i hi => by
    obtain ⟨ha, rfl⟩ := Array.getElem?_eq_some_iff.mp hc
    have q := List.all_eq_true.mp ((Array.all_eq_true_iff_forall_mem.mp hF) _ (Array.getElem_mem ha)) i (List.mem_range.mpr hi)
    simpa [Array.getElem?_eq_getElem hi] using q
  obtain ⟨p0, ei0⟩ := is_v k53
  obtain rfl : w0 = (.int p0) := Option.some.inj ei0
  obtain ⟨g1, g2⟩ := and_e hn
  obtain ⟨g3, g4⟩ := and_e g2
  obtain ⟨g5, g6⟩ := and_e g4
  obtain ⟨g7, g8⟩ := and_e g6
  obtain ⟨g9, g10⟩ := and_e g8
  obtain ⟨g11, g12⟩ := and_e g10
  obtain ⟨g13, g14⟩ := and_e g12
  obtain ⟨g15, g16⟩ := and_e g14
  obtain ⟨g17, g18⟩ := and_e g16
  obtain ⟨g19, g20⟩ := and_e g18
  obtain ⟨g21, g22⟩ := and_e g20
  obtain ⟨g23, g24⟩ := and_e g22
  obtain ⟨g25, g26⟩ := and_e g24
  obtain ⟨g27, g28⟩ := and_e g26
  obtain ⟨a__VALUES, ev_a__VALUES⟩ := exa_v g3
  have S_a__VALUES : Sta s s.heap "com/example/knotwork/knotwork/store/SagaState" "$VALUES" "[Lcom/example/knotwork/knotwork/store/SagaState;" (.ref a__VALUES) := Sta.start ev_a__VALUES (Or.inr ⟨(tw_2 hw), (tw_8 hw)⟩)
  have E_a__VALUES : Exa s s.heap a__VALUES "[Lcom/example/knotwork/knotwork/store/SagaState;" := Exa.start ev_a__VALUES g3
  obtain ⟨a_RUNNING, ev_a_RUNNING⟩ := exa_v g7
  have S_a_RUNNING : Sta s s.heap "com/example/knotwork/knotwork/store/SagaState" "RUNNING" "Lcom/example/knotwork/knotwork/store/SagaState;" (.ref a_RUNNING) := Sta.start ev_a_RUNNING (Or.inr ⟨(tw_2 hw), (tw_16 hw)⟩)
  have E_a_RUNNING : Exa s s.heap a_RUNNING "com/example/knotwork/knotwork/store/SagaState" := Exa.start ev_a_RUNNING g7
  obtain ⟨a_COMPENSATING, ev_a_COMPENSATING⟩ := exa_v g11
  have S_a_COMPENSATING : Sta s s.heap "com/example/knotwork/knotwork/store/SagaState" "COMPENSATING" "Lcom/example/knotwork/knotwork/store/SagaState;" (.ref a_COMPENSATING) := Sta.start ev_a_COMPENSATING (Or.inr ⟨(tw_2 hw), (tw_17 hw)⟩)
  have E_a_COMPENSATING : Exa s s.heap a_COMPENSATING "com/example/knotwork/knotwork/store/SagaState" := Exa.start ev_a_COMPENSATING g11
  obtain ⟨a_COMPLETED, ev_a_COMPLETED⟩ := exa_v g15
  have S_a_COMPLETED : Sta s s.heap "com/example/knotwork/knotwork/store/SagaState" "COMPLETED" "Lcom/example/knotwork/knotwork/store/SagaState;" (.ref a_COMPLETED) := Sta.start ev_a_COMPLETED (Or.inr ⟨(tw_2 hw), (tw_18 hw)⟩)
  have E_a_COMPLETED : Exa s s.heap a_COMPLETED "com/example/knotwork/knotwork/store/SagaState" := Exa.start ev_a_COMPLETED g15
  obtain ⟨a_COMPENSATED, ev_a_COMPENSATED⟩ := exa_v g19
  have S_a_COMPENSATED : Sta s s.heap "com/example/knotwork/knotwork/store/SagaState" "COMPENSATED" "Lcom/example/knotwork/knotwork/store/SagaState;" (.ref a_COMPENSATED) := Sta.start ev_a_COMPENSATED (Or.inr ⟨(tw_2 hw), (tw_19 hw)⟩)
  have E_a_COMPENSATED : Exa s s.heap a_COMPENSATED "com/example/knotwork/knotwork/store/SagaState" := Exa.start ev_a_COMPENSATED g19
  have F_code_a_RUNNING : Fld s s.heap a_RUNNING "com/example/knotwork/knotwork/store/SagaState" "code" "B" (.int (1 : Int32)) := own_fld ev_a_RUNNING g23
  have F_code_a_COMPENSATING : Fld s s.heap a_COMPENSATING "com/example/knotwork/knotwork/store/SagaState" "code" "B" (.int (2 : Int32)) := own_fld ev_a_COMPENSATING g25
  have F_code_a_COMPLETED : Fld s s.heap a_COMPLETED "com/example/knotwork/knotwork/store/SagaState" "code" "B" (.int (3 : Int32)) := own_fld ev_a_COMPLETED g27
  have F_code_a_COMPENSATED : Fld s s.heap a_COMPENSATED "com/example/knotwork/knotwork/store/SagaState" "code" "B" (.int (4 : Int32)) := own_fld ev_a_COMPENSATED g28
  obtain ⟨cl_a, Ar_a⟩ := Arr.start ev_a__VALUES g1
  obtain ⟨Ln_a, Lm_a⟩ := IntBox.length_fwd (Cond.before_iff.mpr g5) ev_a__VALUES Ar_a.1 Ar_a.2.1 Ar_a.2.2
  obtain ⟨kcl_VALUES, hkk⟩ : ∃ z, z = cl_a.cls := ⟨_, rfl⟩
  have V_a : Arv s s.heap a__VALUES kcl_VALUES (.object "com/example/knotwork/knotwork/store/SagaState") (4 : Int32) [(.ref a_RUNNING), (.ref a_COMPENSATING), (.ref a_COMPLETED), (.ref a_COMPENSATED)] .null := hkk ▸ Arv.start hfit Ar_a Ln_a Lm_a (by decide) rfl ⟨own_elem ev_a__VALUES Ar_a.1 g9 ev_a_RUNNING, own_elem ev_a__VALUES Ar_a.1 g13 ev_a_COMPENSATING, own_elem ev_a__VALUES Ar_a.1 g17 ev_a_COMPLETED, own_elem ev_a__VALUES Ar_a.1 g21 ev_a_COMPENSATED, trivial⟩
  have M : MetFree l x (head1 (Jvm.Cond.code x code maxLocals ret :: tables_1) room_1) (fun a U => a = #[(.int p0)] ∧ s.Warmed39 U.vm ∧ U.heap = s.heap) (fun _ _ _ _ _ => True) (fun _ U o U' => ∃ v L, o = .returned v ∧ QT s.heap.size v U'.heap L ∧ FrameEnd U o U' L room_1.cells room_1.slots) := by
    rcases own_and3 p0 with hk | hk | hk | hk
    · exact rm0_36 l s _ hw tables_1 p0 a__VALUES kcl_VALUES a_RUNNING a_COMPENSATING a_COMPLETED a_COMPENSATED s.heap s.heap.size (Nat.le_refl _) hk S_a__VALUES V_a E_a__VALUES F_code_a_RUNNING S_a_RUNNING
    · exact rm0_41 l s _ hw tables_1 p0 a__VALUES kcl_VALUES a_RUNNING a_COMPENSATING a_COMPLETED a_COMPENSATED s.heap s.heap.size (Nat.le_refl _) hk S_a__VALUES V_a E_a__VALUES F_code_a_RUNNING F_code_a_COMPENSATING S_a_COMPENSATING
    · exact rm0_46 l s _ hw tables_1 p0 a__VALUES kcl_VALUES a_RUNNING a_COMPENSATING a_COMPLETED a_COMPENSATED s.heap s.heap.size (Nat.le_refl _) hk S_a__VALUES V_a E_a__VALUES F_code_a_RUNNING F_code_a_COMPENSATING F_code_a_COMPLETED S_a_COMPLETED
    · exact rm0_51 l s _ hw tables_1 p0 a__VALUES kcl_VALUES a_RUNNING a_COMPENSATING a_COMPLETED a_COMPENSATED s.heap s.heap.size (Nat.le_refl _) hk S_a__VALUES V_a E_a__VALUES F_code_a_RUNNING F_code_a_COMPENSATING F_code_a_COMPLETED F_code_a_COMPENSATED S_a_COMPENSATED
  obtain ⟨n, o, h1, h2, h3, _, L, rfl, ⟨rfl, N⟩, hq⟩ := M p e ha hc hk s m _ below hf ((Spec.applies_iff_loose hf).mp happ).1 ⟨rfl, State.Warmed39.refl s, rfl⟩ trivial
  refine ⟨n, _, h1, h2, h3, hpost _ _ _ _ _ _ ⟨Cond.after_iff.mpr rfl, Cond.after_iff.mpr (eq_i res_at (Term.int_eval (1)) rfl), trivial⟩ ⟨hq.1, hq.2.1, (hq.2.2.sift fun y hy => Or.inr (N y hy)).mono (by decide) (by decide)⟩⟩
theorem main_1_1 : Claimed_1_1 := comes_1 fun _ _ _ _ _ _ h hF => ⟨h.1, hF⟩
theorem main_1_2 : Claimed_1_2 := comes_1 fun _ _ _ _ _ _ h hF => ⟨h.2.1, hF⟩
end Jvm.Pilot.@@N@@
namespace Jvm.Pilot.@@N@@
open Jvm Jvm.ClassFile Sem Op Lib Jvm.Free Jvm.Stand Jvm.Pilot.@@N@@.Jvm.D
/-! MADE BY PROGRAM (witnessworld.py) out of the Statement's table words and the real class files: 13 classes; the members and pool entries that the words name. The judged class is class 1, her method 2. -/
namespace start1
open Jvm.ClassFile
def u (s : String) : CpInfo := .utf8 (stringToUtf16 s)
/-- a pool by its gaps: so many unusable entries, then the entry; so many at the end -/
def gap : Nat → List CpInfo → List CpInfo
  | 0, r => r
  | n + 1, r => .unusable :: gap n r
def poolList (es : List (Nat × CpInfo)) (last : Nat) : List CpInfo := es.foldr (fun e r => gap e.1 (e.2 :: r)) (gap last [])
def pool (es : List (Nat × CpInfo)) (last : Nat) : Array CpInfo := ⟨poolList es last⟩
def fileOf (pool : Array CpInfo) (this : Nat) (attrs : Array Attribute := #[]) (ms : Array MethodInfo := #[]) (fl : Nat := 33) (sup : Nat := 0) (ifs : Array Nat := #[]) (fds : Array FieldInfo := #[]) : ClassFile where
  minorVersion := 0
  majorVersion := 65
  constantPool := pool
  accessFlags := fl
  thisClass := this
  superClass := sup
  interfaces := ifs
  fields := fds
  methods := ms
  attributes := attrs
def plain (name : String) (sup : Option ClassId) : Class where
  name := name
  kind := .ordinary
  loader := none
  accessFlags := 33
  super := sup
  interfaces := #[]
  cf := none
  fields := #[]
  methods := #[]
  instanceTypes := #[]
  staticTypes := #[]
  resolved := #[]
  callSites := []
  init := .initialized
  statics := none
  mirror := none

def pool0 : Array CpInfo := pool [(5, u "<init>"), (0, u "()V"), (1, .class_ 10), (1, u "java/lang/Object"), (85, u "clone"), (0, u "()Ljava/lang/Object;")] 26

def k0m0 : Method := { name := "<init>", desc := "()V", sig := { parameters := [], returnType := none }, accessFlags := 1, code := none }
def k0m1 : Method := { name := "clone", desc := "()Ljava/lang/Object;", sig := { parameters := [], returnType := some (.object "java/lang/Object") }, accessFlags := 260, code := none }
/-- java/lang/Object -/
def k0 : Class := { plain "java/lang/Object" none with
  accessFlags := 33
  interfaces := #[]
  cf := some (fileOf pool0 8 #[] #[{ accessFlags := 1, nameIndex := 5, descriptorIndex := 6, attributes := #[] }, { accessFlags := 260, nameIndex := 96, descriptorIndex := 97, attributes := #[] }] 33 0 #[] #[])
  fields := #[]
  methods := #[k0m0, k0m1]
  instanceTypes := #[]
  staticTypes := #[]
  resolved := Array.replicate 124 none
  statics := none }

def pool1 : Array CpInfo := pool [(2, .class_ 4), (1, u "java/lang/Object"), (0, u "<init>"), (0, u "()V"), (0, .fieldref 8 9), (0, .class_ 10), (0, .nameAndType 11 12), (0, u "com/example/knotwork/knotwork/store/SagaState"), (0, u "RUNNING"), (0, u "Lcom/example/knotwork/knotwork/store/SagaState;"), (0, .fieldref 8 14), (0, .nameAndType 15 12), (0, u "COMPENSATING"), (0, .fieldref 8 17), (0, .nameAndType 18 12), (0, u "COMPLETED"), (0, .fieldref 8 20), (0, .nameAndType 21 12), (0, u "COMPENSATED"), (0, .methodref 8 23), (0, .nameAndType 24 25), (0, u "ofCode"), (0, u "(B)Lcom/example/knotwork/knotwork/store/SagaState;"), (0, .methodref 27 28), (0, .class_ 29), (0, .nameAndType 30 31), (0, u "com/example/knotwork/knotwork/store/SagaStateOfCodePinLaw"), (0, u "expected"), (0, u "(I)Lcom/example/knotwork/knotwork/store/SagaState;"), (0, .fieldref 8 33), (0, .nameAndType 34 35), (0, u "code"), (0, u "B"), (3, u "law"), (0, u "(I)Z")] 2

def k1m0 : Method := { name := "<init>", desc := "()V", sig := { parameters := [], returnType := none }, accessFlags := 1, code := none }
def k1c1 : Code := { maxStack := 2, maxLocals := 1, code := method_2_code, exceptionTable := #[], attributes := #[] }
def k1m1 : Method := { name := "expected", desc := "(I)Lcom/example/knotwork/knotwork/store/SagaState;", sig := { parameters := [.int], returnType := some (.object "com/example/knotwork/knotwork/store/SagaState") }, accessFlags := 10, code := some k1c1 }
def k1c2 : Code := { maxStack := 2, maxLocals := 4, code := code, exceptionTable := #[], attributes := #[] }
def k1m2 : Method := { name := "law", desc := "(I)Z", sig := { parameters := [.int], returnType := some .boolean }, accessFlags := 9, code := some k1c2 }
/-- com/example/knotwork/knotwork/store/SagaStateOfCodePinLaw -/
def k1 : Class := { plain "com/example/knotwork/knotwork/store/SagaStateOfCodePinLaw" (some 0) with
  accessFlags := 49
  interfaces := #[]
  cf := some (fileOf pool1 27 #[] #[{ accessFlags := 1, nameIndex := 5, descriptorIndex := 6, attributes := #[] }, { accessFlags := 10, nameIndex := 30, descriptorIndex := 31, attributes := #[] }, { accessFlags := 9, nameIndex := 39, descriptorIndex := 40, attributes := #[] }] 49 2 #[] #[])
  fields := #[]
  methods := #[k1m0, k1m1, k1m2]
  instanceTypes := #[]
  staticTypes := #[]
  resolved := Array.replicate 43 none
  statics := none }

def pool2 : Array CpInfo := pool [(1, .class_ 2), (0, u "java/lang/constant/Constable"), (0, .class_ 4), (0, u "java/lang/Object")] 6

/-- java/lang/constant/Constable -/
def k2 : Class := { plain "java/lang/constant/Constable" (some 0) with
  accessFlags := 1537
  interfaces := #[]
  cf := some (fileOf pool2 1 #[] #[] 1537 3 #[] #[])
  fields := #[]
  methods := #[]
  instanceTypes := #[]
  staticTypes := #[]
  resolved := Array.replicate 11 none
  statics := none }

def pool3 : Array CpInfo := pool [(1, .class_ 2), (0, u "java/lang/Comparable"), (0, .class_ 4), (0, u "java/lang/Object")] 7

/-- java/lang/Comparable -/
def k3 : Class := { plain "java/lang/Comparable" (some 0) with
  accessFlags := 1537
  interfaces := #[]
  cf := some (fileOf pool3 1 #[] #[] 1537 3 #[] #[])
  fields := #[]
  methods := #[]
  instanceTypes := #[]
  staticTypes := #[]
  resolved := Array.replicate 12 none
  statics := none }

def pool4 : Array CpInfo := pool [(1, .class_ 2), (0, u "java/io/Serializable"), (0, .class_ 4), (0, u "java/lang/Object")] 2

/-- java/io/Serializable -/
def k4 : Class := { plain "java/io/Serializable" (some 0) with
  accessFlags := 1537
  interfaces := #[]
  cf := some (fileOf pool4 1 #[] #[] 1537 3 #[] #[])
  fields := #[]
  methods := #[]
  instanceTypes := #[]
  staticTypes := #[]
  resolved := Array.replicate 7 none
  statics := none }

def pool5 : Array CpInfo := pool [(2, .class_ 4), (1, u "java/lang/Enum"), (0, u "name"), (0, u "Ljava/lang/String;"), (2, u "ordinal"), (0, u "I"), (1, .class_ 14), (1, u "java/lang/Object"), (4, u "hash"), (86, .class_ 108), (1, u "java/lang/Enum$EnumDesc"), (2, .class_ 112), (0, u "java/lang/constant/Constable"), (0, .class_ 114), (0, u "java/lang/Comparable"), (0, .class_ 116), (0, u "java/io/Serializable")] 87

/-- java/lang/Enum -/
def k5 : Class := { plain "java/lang/Enum" (some 0) with
  accessFlags := 1057
  interfaces := #[2, 3, 4]
  cf := some (fileOf pool5 2 #[.nestMembers #[106]] #[] 1057 12 #[111, 113, 115] #[{ accessFlags := 18, nameIndex := 5, descriptorIndex := 6, attributes := #[] }, { accessFlags := 18, nameIndex := 9, descriptorIndex := 10, attributes := #[] }, { accessFlags := 2, nameIndex := 19, descriptorIndex := 10, attributes := #[] }])
  fields := #[{ name := "name", type := (.object "java/lang/String"), accessFlags := 18, slot := 0, constantValue := 0 }, { name := "ordinal", type := .int, accessFlags := 18, slot := 1, constantValue := 0 }, { name := "hash", type := .int, accessFlags := 2, slot := 2, constantValue := 0 }]
  methods := #[]
  instanceTypes := #[(.object "java/lang/String"), .int, .int]
  staticTypes := #[]
  resolved := Array.replicate 204 none
  statics := none }

def pool6 : Array CpInfo := pool [(1, .class_ 2), (0, u "com/example/knotwork/knotwork/store/SagaState"), (2, u "RUNNING"), (0, u "Lcom/example/knotwork/knotwork/store/SagaState;"), (2, u "COMPENSATING"), (2, u "COMPLETED"), (2, u "COMPENSATED"), (0, .fieldref 1 17), (0, .nameAndType 18 19), (0, u "$VALUES"), (0, u "[Lcom/example/knotwork/knotwork/store/SagaState;"), (0, .methodref 21 22), (0, .class_ 19), (0, .nameAndType 23 24), (0, u "clone"), (0, u "()Ljava/lang/Object;"), (1, .class_ 28), (1, u "java/lang/Enum"), (6, .fieldref 1 36), (0, .nameAndType 37 38), (0, u "code"), (0, u "B"), (16, .methodref 1 56), (0, .nameAndType 57 58), (0, u "values"), (0, u "()[Lcom/example/knotwork/knotwork/store/SagaState;"), (29, u "ofCode"), (0, u "(B)Lcom/example/knotwork/knotwork/store/SagaState;")] 20

def k6c0 : Code := { maxStack := 1, maxLocals := 0, code := prog_30_method_1_code, exceptionTable := #[], attributes := #[] }
def k6m0 : Method := { name := "values", desc := "()[Lcom/example/knotwork/knotwork/store/SagaState;", sig := { parameters := [], returnType := some (.array (.object "com/example/knotwork/knotwork/store/SagaState")) }, accessFlags := 9, code := some k6c0 }
def k6c1 : Code := { maxStack := 3, maxLocals := 5, code := prog_30_method_6_code, exceptionTable := #[], attributes := #[] }
def k6m1 : Method := { name := "ofCode", desc := "(B)Lcom/example/knotwork/knotwork/store/SagaState;", sig := { parameters := [.byte], returnType := some (.object "com/example/knotwork/knotwork/store/SagaState") }, accessFlags := 8, code := some k6c1 }
/-- com/example/knotwork/knotwork/store/SagaState -/
def k6 : Class := { plain "com/example/knotwork/knotwork/store/SagaState" (some 5) with
  accessFlags := 16433
  interfaces := #[]
  cf := some (fileOf pool6 1 #[] #[{ accessFlags := 9, nameIndex := 57, descriptorIndex := 58, attributes := #[] }, { accessFlags := 8, nameIndex := 88, descriptorIndex := 89, attributes := #[] }] 16433 26 #[] #[{ accessFlags := 16409, nameIndex := 5, descriptorIndex := 6, attributes := #[] }, { accessFlags := 16409, nameIndex := 9, descriptorIndex := 6, attributes := #[] }, { accessFlags := 16409, nameIndex := 12, descriptorIndex := 6, attributes := #[] }, { accessFlags := 16409, nameIndex := 15, descriptorIndex := 6, attributes := #[] }, { accessFlags := 16, nameIndex := 37, descriptorIndex := 38, attributes := #[] }, { accessFlags := 4122, nameIndex := 18, descriptorIndex := 19, attributes := #[] }])
  fields := #[{ name := "RUNNING", type := (.object "com/example/knotwork/knotwork/store/SagaState"), accessFlags := 16409, slot := 0, constantValue := 0 }, { name := "COMPENSATING", type := (.object "com/example/knotwork/knotwork/store/SagaState"), accessFlags := 16409, slot := 1, constantValue := 0 }, { name := "COMPLETED", type := (.object "com/example/knotwork/knotwork/store/SagaState"), accessFlags := 16409, slot := 2, constantValue := 0 }, { name := "COMPENSATED", type := (.object "com/example/knotwork/knotwork/store/SagaState"), accessFlags := 16409, slot := 3, constantValue := 0 }, { name := "code", type := .byte, accessFlags := 16, slot := 3, constantValue := 0 }, { name := "$VALUES", type := (.array (.object "com/example/knotwork/knotwork/store/SagaState")), accessFlags := 4122, slot := 4, constantValue := 0 }]
  methods := #[k6m0, k6m1]
  instanceTypes := #[(.object "java/lang/String"), .int, .int, .byte]
  staticTypes := #[(.object "com/example/knotwork/knotwork/store/SagaState"), (.object "com/example/knotwork/knotwork/store/SagaState"), (.object "com/example/knotwork/knotwork/store/SagaState"), (.object "com/example/knotwork/knotwork/store/SagaState"), (.array (.object "com/example/knotwork/knotwork/store/SagaState"))]
  resolved := Array.replicate 110 none
  statics := some 0 }

def pool7 : Array CpInfo := pool [(1, .class_ 2), (0, u "java/lang/Cloneable"), (0, .class_ 4), (0, u "java/lang/Object")] 2

/-- java/lang/Cloneable -/
def k7 : Class := { plain "java/lang/Cloneable" (some 0) with
  accessFlags := 1537
  interfaces := #[]
  cf := some (fileOf pool7 1 #[] #[] 1537 3 #[] #[])
  fields := #[]
  methods := #[]
  instanceTypes := #[]
  staticTypes := #[]
  resolved := Array.replicate 7 none
  statics := none }

/-- the primitive byte -/
def k8 : Class := { plain "byte" none with kind := .primitive 'B', accessFlags := 0x411 }
/-- [B -/
def k9 : Class := { plain "[B" (some 0) with kind := .array 8 .byte, interfaces := #[7, 4], accessFlags := 1041 }

/-- the primitive int -/
def k10 : Class := { plain "int" none with kind := .primitive 'I', accessFlags := 0x411 }
/-- [I -/
def k11 : Class := { plain "[I" (some 0) with kind := .array 10 .int, interfaces := #[7, 4], accessFlags := 1041 }

/-- [Lcom/example/knotwork/knotwork/store/SagaState; -/
def k12 : Class := { plain "[Lcom/example/knotwork/knotwork/store/SagaState;" (some 0) with kind := .array 6 (.object "com/example/knotwork/knotwork/store/SagaState"), interfaces := #[7, 4], accessFlags := 1041 }

def heap : Heap := #[{ cls := 6, slots := #[.ref 2, .ref 3, .ref 4, .ref 5, .ref 1], vm := .statics 6 },
  { cls := 12, slots := #[.ref 2, .ref 3, .ref 4, .ref 5], vm := .none },
  { cls := 6, slots := #[.null, .int 0, .int 0, .int 1], vm := .none },
  { cls := 6, slots := #[.null, .int 0, .int 0, .int 2], vm := .none },
  { cls := 6, slots := #[.null, .int 0, .int 0, .int 3], vm := .none },
  { cls := 6, slots := #[.null, .int 0, .int 0, .int 4], vm := .none }]
def classes : Array Class := #[k0, k1, k2, k3, k4, k5, k6, k7, k8, k9, k10, k11, k12]
def interned : List (Array UInt16 × Addr) := []
def slotsUsed : Nat := 25
def theMethod : MethodId := ⟨1, 2⟩
def args0 : Array Value := #[.int 5]
def aboutOver (below : List Frame) : State where
  vm := { classes := classes, interned := interned.toArray }
  heap := heap
  slotsUsed := slotsUsed
  threads := #[{ frames := .invoking theMethod args0 :: below }]
def below0 : List Frame := [.native { method := ⟨0, 0⟩, args := #[] }]
def about1 : State := aboutOver below0
def p0 : Program := .bare "" "" ""
def e0 : Env := launch0.env 0 0 0
theorem w_frames : about1.frames = Frame.invoking theMethod args0 :: below0 := rfl
set_option maxRecDepth 65536 in
theorem w_args : argsFit about1.vm theMethod args0 = true := by decide +kernel
set_option maxRecDepth 65536 in
theorem w_heap : heapFits about1 = true := by decide +kernel
set_option maxRecDepth 65536 in
theorem w_runnable : about1.curStatus? = some .runnable := by decide +kernel
set_option maxRecDepth 65536 in
theorem w_alone : about1.alone = true := by decide +kernel
set_option maxRecDepth 65536 in
theorem w_named : about1.methodNamed? x = some theMethod := by decide +kernel
set_option maxRecDepth 65536 in
theorem w_hears : about1.hears theMethod below0 = true := by decide +kernel
set_option maxRecDepth 65536 in
theorem w_ripe : about1.ripe theMethod args0 below0 = true := by decide +kernel
theorem w_running : about1.status = .running := rfl
set_option maxRecDepth 65536 in
theorem w_room : about1.hasRoom e0.platform room_1 = true :=
  launch0.hasRoom_least _ room_1 (by decide +kernel) (by decide +kernel) (by decide +kernel) (by decide +kernel) (by decide +kernel) (by decide +kernel)
theorem allAtoms_all (ts : List Jvm.Cond) (a : Array Jvm.Value) (st : Jvm.State) : (allAtoms ts).before a st = ts.all (fun c => c.before a st) := by
  induction ts with
  | nil => rfl
  | cons c t ih =>
    show (Jvm.Cond.and c (allAtoms t)).before a st = _
    rw [Jvm.Cond.before_and, ih, List.all_cons]
def words1 : List Jvm.Cond := Jvm.Cond.code x code maxLocals ret :: tables_1
/-- a 'code' word, met by the world's own term for the bytes: nothing is compared byte by byte -/
theorem code_word {y : MethodName} {bytes : ByteArray} {mx : Nat} {rt : Option FieldType} {a : Array Value} {s : State} {m : MethodId} {meth : Method} {c : Code} (h1 : s.methodNamed? y = some m) (h2 : s.vm.method? m = some meth) (h3 : meth.code = some c) (h4 : c.code = bytes)
    (h5 : (c.maxLocals == mx && c.exceptionTable.isEmpty && decide (c.maxStack ≤ mostOperands) && decide (meth.sig.returnType = rt) && !meth.locks && decide (parseMethodDescriptor y.desc = some meth.sig)) = true) : (Jvm.Cond.code y bytes mx rt).before a s = true := by
  simp only [Bool.and_eq_true, beq_iff_eq, Bool.not_eq_true', decide_eq_true_eq] at h5
  obtain ⟨⟨⟨⟨⟨g1, g2⟩, g3⟩, g4⟩, g5⟩, g6⟩ := h5
  simp [Cond.before, Cond.holds, Cond.value, h1, h2, h3, h4, g1, g2, g3, g4, g5, g6]
def isCode : Jvm.Cond → Bool
  | .code _ _ _ _ => true
  | _ => false
theorem all_split {L : List Jvm.Cond} {P : Jvm.Cond → Bool} (h1 : L.all (fun c => isCode c || P c) = true) (h2 : ∀ c ∈ L.filter isCode, P c = true) : L.all P = true := by
  refine List.all_eq_true.mpr fun c hc => ?_
  have h := List.all_eq_true.mp h1 c hc
  rcases Bool.eq_false_or_eq_true (isCode c) with hi | hi
  · exact h2 c (List.mem_filter.mpr ⟨hc, hi⟩)
  · simpa [hi] using h
set_option maxRecDepth 65536 in
theorem w_c0 : (Jvm.Cond.code x code maxLocals ret).before args0 about1 = true := code_word (m := ⟨1, 2⟩) (meth := k1m2) (c := k1c2) (by decide +kernel) rfl rfl rfl (by decide +kernel)
set_option maxRecDepth 65536 in
theorem w_c1 : (Jvm.Cond.code ({ cls := "com/example/knotwork/knotwork/store/SagaState", name := "ofCode", desc := "(B)Lcom/example/knotwork/knotwork/store/SagaState;" } : Jvm.MethodName) prog_30_method_6_code (5 : Nat) (Option.some (Jvm.ClassFile.FieldType.object "com/example/knotwork/knotwork/store/SagaState"))).before args0 about1 = true := code_word (m := ⟨6, 1⟩) (meth := k6m1) (c := k6c1) (by decide +kernel) rfl rfl rfl (by decide +kernel)
set_option maxRecDepth 65536 in
theorem w_c2 : (Jvm.Cond.code ({ cls := "com/example/knotwork/knotwork/store/SagaState", name := "values", desc := "()[Lcom/example/knotwork/knotwork/store/SagaState;" } : Jvm.MethodName) prog_30_method_1_code (0 : Nat) (Option.some (Jvm.ClassFile.FieldType.array (Jvm.ClassFile.FieldType.object "com/example/knotwork/knotwork/store/SagaState")))).before args0 about1 = true := code_word (m := ⟨6, 0⟩) (meth := k6m0) (c := k6c0) (by decide +kernel) rfl rfl rfl (by decide +kernel)
set_option maxRecDepth 65536 in
theorem w_c3 : (Jvm.Cond.code ({ cls := "com/example/knotwork/knotwork/store/SagaStateOfCodePinLaw", name := "expected", desc := "(I)Lcom/example/knotwork/knotwork/store/SagaState;" } : Jvm.MethodName) method_2_code (1 : Nat) (Option.some (Jvm.ClassFile.FieldType.object "com/example/knotwork/knotwork/store/SagaState"))).before args0 about1 = true := code_word (m := ⟨1, 1⟩) (meth := k1m1) (c := k1c1) (by decide +kernel) rfl rfl rfl (by decide +kernel)
def codes1 : List Jvm.Cond := [Jvm.Cond.code x code maxLocals ret, Jvm.Cond.code ({ cls := "com/example/knotwork/knotwork/store/SagaState", name := "ofCode", desc := "(B)Lcom/example/knotwork/knotwork/store/SagaState;" } : Jvm.MethodName) prog_30_method_6_code (5 : Nat) (Option.some (Jvm.ClassFile.FieldType.object "com/example/knotwork/knotwork/store/SagaState")), Jvm.Cond.code ({ cls := "com/example/knotwork/knotwork/store/SagaState", name := "values", desc := "()[Lcom/example/knotwork/knotwork/store/SagaState;" } : Jvm.MethodName) prog_30_method_1_code (0 : Nat) (Option.some (Jvm.ClassFile.FieldType.array (Jvm.ClassFile.FieldType.object "com/example/knotwork/knotwork/store/SagaState"))), Jvm.Cond.code ({ cls := "com/example/knotwork/knotwork/store/SagaStateOfCodePinLaw", name := "expected", desc := "(I)Lcom/example/knotwork/knotwork/store/SagaState;" } : Jvm.MethodName) method_2_code (1 : Nat) (Option.some (Jvm.ClassFile.FieldType.object "com/example/knotwork/knotwork/store/SagaState"))]
set_option maxRecDepth 65536 in
theorem codes_eq : words1.filter isCode = codes1 := rfl
theorem w_codes : ∀ c ∈ words1.filter isCode, c.before args0 about1 = true := by
  rw [codes_eq]
  intro c hc
  simp only [codes1, List.mem_cons, List.not_mem_nil, or_false] at hc
  rcases hc with rfl | rfl | rfl | rfl
  · exact w_c0
  · exact w_c1
  · exact w_c2
  · exact w_c3
set_option maxRecDepth 65536 in
theorem w_t1 : (words1.take 24).all (fun c => isCode c || c.before args0 about1) = true := by decide +kernel
set_option maxRecDepth 65536 in
theorem w_t2 : (words1.drop 24).all (fun c => isCode c || c.before args0 about1) = true := by decide +kernel
theorem w_tables : (allAtoms (Jvm.Cond.code x code maxLocals ret :: tables_1)).before args0 about1 = true := by
  rw [allAtoms_all]
  show words1.all (fun c => c.before args0 about1) = true
  refine all_split ?_ w_codes
  rw [← List.take_append_drop 24 words1, List.all_append, w_t1, w_t2]
  rfl
set_option maxRecDepth 65536 in
theorem w_case : (Jvm.Cond.and given_1 narrow_1).before args0 about1 = true := by decide +kernel
theorem w_applies : (headSpec (Jvm.Cond.code x code maxLocals ret :: tables_1) room_1).applies x e0.platform about1 = true :=
  (Spec.applies_iff w_frames).mpr ⟨w_running, w_runnable, w_alone, w_named, w_hears, w_ripe, w_room, w_tables⟩
theorem atStart : AtStart classFile x code maxLocals ret World_1 tables_1 room_1 Calls_1 rest_1 Pre_1 launch0 p0 e0 about1 theMethod args0 below0 :=
  ⟨lists_1, trivial, launch0.admits_env _ _ _, launch0.least_env, fairChoices_fair.cas, fairChoices_fair.clock, w_frames, w_args, w_heap, w_applies, trivial, trivial, w_case⟩
end start1
theorem witness_1 : WitnessClaimed_1 := ⟨start1.p0, start1.e0, start1.about1, start1.theMethod, start1.args0, start1.below0, start1.atStart⟩
end Jvm.Pilot.@@N@@
