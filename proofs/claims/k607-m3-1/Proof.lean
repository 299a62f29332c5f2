import JvmDerived
import JvmDerived.Pilot.@@N@@Statement
import JvmDerived.Pilot.@@N@@Code
set_option linter.unusedVariables false
set_option linter.unusedSimpArgs false
namespace Jvm.RoadKit
open Sem ClassFile Op Lib Jvm.Stand Jvm.Free Jvm.LawKit
section New
variable {p : Program} {l : Launch} {e : Env} {R : Room} {s : State} {m : MethodId} {args : Array Value} {below : List Frame} {meth : Method} {c : Code} {T : State} {locs : List Loc} {cells slots : Nat}
theorem retI (X : Stand p l e R s m args below meth c T locs cells slots) (hx : p.tables.exec = Jvm.exec) {pc : Nat} {Ls : Array Slot} {z : Int32} {rest : List Value} (hret : meth.sig.returnType = some .int) (hd : decode c.code pc = .ok (.ireturn, 1)) {fs : List Frame}
    (hl : ∀ (f : JFrame) (acts : List Action), f.method = m → f.locked = none → f.entered = [] → (doReturn e (T.setTop f) acts (some (.int z))).1 = T.setFrames fs) : Steps p.tables e below (T.setTop (mkF m pc Ls (.int z :: rest))) (T.setFrames fs) := by
  have hm' : T.vm.method? m = some meth := X.method'
  have hn : narrow .int (.int z) = .int z := rfl
  show Steps p.tables e below (T.setTop { method := m, pc := pc, locals := Ls, stack := _ :: rest, locked := none }) _
  jvm_step X.here [X.here.top, hx, hd, hm', hret, hn]
  first | (intro acts; rw [hl _ acts rfl rfl rfl]) | rw [hl _ _ rfl rfl rfl]
  exact Steps.refl _
end New
end Jvm.RoadKit
namespace Jvm.Pilot.@@N@@
open Jvm Jvm.ClassFile Sem Op Lib Jvm.Free Jvm.Stand Jvm.LawKit Jvm.RoadKit Bundle Jvm.Pilot.@@N@@.Jvm.D
def QT (n0 : Nat) (v : Option Value) (h : Heap) (L : List Loc) : Prop := v = some (.int 1) ∧ Fr n0 L
def QP (r : Option Value) (h0 : Heap) (n0 : Nat) (v : Option Value) (h : Heap) (L : List Loc) : Prop := v = r ∧ Fr n0 L ∧ h = h0
theorem own_fld {Z : State} {args : Array Value} {t : Term} {C n d : String} {a : Addr} {i : Int32} (ev : t.eval args Z none [] Z = some (.ref a)) (h : (Cond.eq (Term.field t C n d) (Term.int i)).value args Z none Z [] = some true) : Fld Z Z.heap a C n d (.int i) := by
  have e := fld_at (C := C) (n := n) (dd := d) ev
  refine Fld.start ?_
  obtain ⟨x, y, h1, h2, k1, k2⟩ := cmp_v (Or.inl h)
  have h3 : y = .int i := (Option.some.inj ((Term.int_eval i).symm.trans h2)).symm
  subst h3
  obtain ⟨z, rfl⟩ := k2
  have q : z = i := by simpa [Cond.value, h1, h2] using h
  rw [← e, h1, q]
theorem own_and1 (x : Int32) : (x &&& (1 : Int32)) = (0 : Int32) ∨ (x &&& (1 : Int32)) = (1 : Int32) := by
  have h := c_and x (1 : Int32) (by decide)
  have e : (1 : Int32).toInt = 1 := by decide
  have e0 : (0 : Int32).toInt = 0 := by decide
  have e1 : (1 : Int32).toInt = 1 := by decide
  simp only [← Int32.toInt_inj, e0, e1]
  omega
theorem tw_1 {a0 : Array Value} {Z : State} (hw : ∀ d ∈ tables_1, d.before a0 Z = true) : (Jvm.Cond.initialized "com/example/offer/offer/model/Role").before a0 Z = true := hw _ (List.mem_of_getElem? (i := 1) rfl)
theorem tw_2 {a0 : Array Value} {Z : State} (hw : ∀ d ∈ tables_1, d.before a0 Z = true) : (Jvm.Cond.laysStatic "com/example/offer/offer/model/Role" "PROVIDER" "Lcom/example/offer/offer/model/Role;").before a0 Z = true := hw _ (List.mem_of_getElem? (i := 2) rfl)
abbrev S_0 (Z : State) (h : Heap) (v : Value) : Prop := Sta Z h "com/example/offer/offer/model/Role" "PROVIDER" "Lcom/example/offer/offer/model/Role;" v
abbrev E_0 (Z : State) (h : Heap) (a : Addr) : Prop := Exa Z h a "com/example/offer/offer/model/Role"
theorem tw_10 {a0 : Array Value} {Z : State} (hw : ∀ d ∈ tables_1, d.before a0 Z = true) : (Jvm.Cond.laysStatic "com/example/offer/offer/model/Role" "CONSUMER" "Lcom/example/offer/offer/model/Role;").before a0 Z = true := hw _ (List.mem_of_getElem? (i := 10) rfl)
abbrev S_1 (Z : State) (h : Heap) (v : Value) : Prop := Sta Z h "com/example/offer/offer/model/Role" "CONSUMER" "Lcom/example/offer/offer/model/Role;" v
abbrev F_0 (Z : State) (h : Heap) (a : Addr) (v : Value) : Prop := Fld Z h a "java/lang/Enum" "ordinal" "I" v
theorem tw_0 {a0 : Array Value} {Z : State} (hw : ∀ d ∈ tables_1, d.before a0 Z = true) : (Jvm.Cond.fieldLink "com/example/offer/offer/model/RoleOtherPinLaw" (7 : Nat) "com/example/offer/offer/model/Role" "PROVIDER" "Lcom/example/offer/offer/model/Role;").before a0 Z = true := hw _ (List.mem_of_getElem? (i := 0) rfl)
theorem tw_3 {a0 : Array Value} {Z : State} (hw : ∀ d ∈ tables_1, d.before a0 Z = true) : (Jvm.Cond.methodLink "com/example/offer/offer/model/RoleOtherPinLaw" (16 : Nat) ({ cls := "com/example/offer/offer/model/Role", name := "other", desc := "()Lcom/example/offer/offer/model/Role;" } : Jvm.MethodName)).before a0 Z = true := hw _ (List.mem_of_getElem? (i := 3) rfl)
theorem tw_7 {a0 : Array Value} {Z : State} (hw : ∀ d ∈ tables_1, d.before a0 Z = true) : (Jvm.Cond.code ({ cls := "com/example/offer/offer/model/Role", name := "other", desc := "()Lcom/example/offer/offer/model/Role;" } : Jvm.MethodName) prog_5_method_4_code (1 : Nat) (Option.some (Jvm.ClassFile.FieldType.object "com/example/offer/offer/model/Role"))).before a0 Z = true := hw _ (List.mem_of_getElem? (i := 7) rfl)
theorem d1_0 : decode prog_5_method_4_code 0 = .ok (.aload_n 0, 1) := by decide +kernel
theorem d1_1 : decode prog_5_method_4_code 1 = .ok (.getstatic 3, 3) := by decide +kernel
theorem tw_8 {a0 : Array Value} {Z : State} (hw : ∀ d ∈ tables_1, d.before a0 Z = true) : (Jvm.Cond.fieldLink "com/example/offer/offer/model/Role" (3 : Nat) "com/example/offer/offer/model/Role" "PROVIDER" "Lcom/example/offer/offer/model/Role;").before a0 Z = true := hw _ (List.mem_of_getElem? (i := 8) rfl)
theorem d1_4 : decode prog_5_method_4_code 4 = .ok (.if_acmp .ne 9, 3) := by decide +kernel
theorem d1_7 : decode prog_5_method_4_code 7 = .ok (.getstatic 7, 3) := by decide +kernel
theorem tw_9 {a0 : Array Value} {Z : State} (hw : ∀ d ∈ tables_1, d.before a0 Z = true) : (Jvm.Cond.fieldLink "com/example/offer/offer/model/Role" (7 : Nat) "com/example/offer/offer/model/Role" "CONSUMER" "Lcom/example/offer/offer/model/Role;").before a0 Z = true := hw _ (List.mem_of_getElem? (i := 9) rfl)
theorem d1_10 : decode prog_5_method_4_code 10 = .ok (.goto 6, 3) := by decide +kernel
theorem d1_16 : decode prog_5_method_4_code 16 = .ok (.areturn, 1) := by decide +kernel
abbrev R_0_0_0_0 : Room := { frames := 0, cells := 0, slots := 0, locals := 0 }
abbrev M_0 : MethodName := ⟨"com/example/offer/offer/model/Role", "other", "()Lcom/example/offer/offer/model/Role;"⟩
theorem ef1_R (m : MethodId) (x0 : Addr) : entryFrame m #[(.ref x0)] 1 = mkF m 0 #[.val (.ref x0)] [] := by first | (simp [entryFrame, mkF, argsToLocals, Value.category]; done) | rfl
theorem pn_com_example_offer_offer_model_Role : plainName "com/example/offer/offer/model/Role" = true := by first | (simp [plainName, overriddenIn]; done) | decide +kernel
set_option maxRecDepth 65536 in
set_option maxHeartbeats 40000000 in
theorem rm1_7 (l : Launch) (Z : State) (a0 : Array Value) (hw : ∀ d ∈ tables_1, d.before a0 Z = true) (ws : List Jvm.Cond) (a_PROVIDER : Addr) (a_CONSUMER : Addr) (h0 : Heap) (n0 : Nat) (Z0 : n0 ≤ h0.size) (f1 : S_0 Z h0 (.ref a_PROVIDER)) (f2 : S_1 Z h0 (.ref a_CONSUMER)) :
    MetFree l M_0 (head1 (Jvm.Cond.code M_0 prog_5_method_4_code 1 (some (.object "com/example/offer/offer/model/Role")) :: ws) R_0_0_0_0) (fun a U => a = #[(.ref a_PROVIDER)] ∧ Z.Warmed39 U.vm ∧ U.heap = h0) (fun _ _ _ _ _ => True) (fun _ U o U' => ∃ v L, o = .returned v ∧ QP (some (.ref a_CONSUMER)) h0 n0 v U'.heap L ∧ FrameEnd U o U' L R_0_0_0_0.cells R_0_0_0_0.slots) := by
  refine MetFree.of_bodySF (plainFor_of_name pn_com_example_offer_offer_model_Role) hisR ?_
  intro p e s m args below meth c s₁ Bd hml0 hP hK
  obtain ⟨rfl, hZ, hh⟩ := hP
  have hx := Bd.exec
  have hby := Bd.bytes
  have hml : c.maxLocals = 1 := hml0
  have hown : s.vm.findClass "com/example/offer/offer/model/Role" = some m.cls := findClass_of_methodNamed Bd.named
  have hnm := (name_of_methodNamed Bd.named Bd.method).1
  have X0 : Stand p l e R_0_0_0_0 s m #[(.ref a_PROVIDER)] below meth c s₁ [] 0 0 := Stand.of_body Bd
  have e0 : s₁.heap = h0 := by rw [← hh, Bd.state]; rfl
  have N0 := Fr.nil n0
  obtain ⟨T1, X1, e1, st1⟩ := getS2 X0 hx hZ hown (host := "") (Or.inl (tw_8 hw)) Via.refl e0 f1 (g := (mkF m 1 #[.val (.ref a_PROVIDER)] [(.ref a_PROVIDER)])) rfl (hb hby d1_1)
  obtain ⟨T2, X2, e2, st2⟩ := getS2 X1 hx hZ hown (host := "") (Or.inl (tw_9 hw)) Via.refl e1 f2 (g := (mkF m 7 #[.val (.ref a_PROVIDER)] [])) rfl (hb hby d1_7)
  obtain ⟨fs, hr, hrun, hended, hW, hsame⟩ := X2.leave (v := (some (.ref a_CONSUMER))) (fun h => by rw [Bd.returns] at h; cases h)
  refine ⟨_, _, castTop (ef1_R m a_PROVIDER) ?_, hrun, hended, _, _, rfl, ?_, ⟨_, rfl⟩, hW, hsame.mono (by decide) (by decide)⟩
  · show Steps p.tables e below (s₁.setTop (mkF m 0 #[.val (.ref a_PROVIDER)] [])) _
    refine XS.aloadN X0.here hx rfl (hb hby d1_0) rfl rfl ?_
    show Steps p.tables e below (s₁.setTop (mkF m 1 #[.val (.ref a_PROVIDER)] [(.ref a_PROVIDER)])) _
    refine st1 _ ?_
    show Steps p.tables e below (T1.setTop (mkF m 4 #[.val (.ref a_PROVIDER)] [(.ref a_PROVIDER), (.ref a_PROVIDER)])) _
    refine Jvm.RoadKit.acmp (g := (mkF m 4 #[.val (.ref a_PROVIDER)] [(.ref a_PROVIDER), (.ref a_PROVIDER)])) X1 hx rfl rfl rfl (pc0 := 4) (pc' := 7) (same := true) rfl (hb hby d1_4) rfl (decide_eq_true rfl) (by decide) (by decide) ?_
    show Steps p.tables e below (T1.setTop (mkF m 7 #[.val (.ref a_PROVIDER)] [])) _
    refine st2 _ ?_
    refine XS.goto X2.here hx rfl (pc0 := 10) (pc' := 16) rfl (hb hby d1_10) (by decide) (by decide) ?_
    show Steps p.tables e below (T2.setTop (mkF m 16 #[.val (.ref a_PROVIDER)] [(.ref a_CONSUMER)])) _
    jvm_step X2.here [X2.here.top, hx, (hb hby d1_16), X2.method', Bd.returns, Value.isRef, FieldType.isReference]
    first | (intro acts; rw [hr _ acts rfl rfl rfl]) | rw [hr _ _ rfl rfl rfl]
    exact Steps.refl _
  · show QP (some (.ref a_CONSUMER)) h0 n0 _ T2.heap _
    rw [e2]
    exact ⟨rfl, N0, rfl⟩
theorem pd_0 : parseMethodDescriptor "()Lcom/example/offer/offer/model/Role;" = some ⟨[], some (.object "com/example/offer/offer/model/Role")⟩ := by decide +kernel
theorem tw_6 {a0 : Array Value} {Z : State} (hw : ∀ d ∈ tables_1, d.before a0 Z = true) : (Jvm.Cond.selects "com/example/offer/offer/model/Role" ({ cls := "com/example/offer/offer/model/Role", name := "other", desc := "()Lcom/example/offer/offer/model/Role;" } : Jvm.MethodName) ({ cls := "com/example/offer/offer/model/Role", name := "other", desc := "()Lcom/example/offer/offer/model/Role;" } : Jvm.MethodName)).before a0 Z = true := hw _ (List.mem_of_getElem? (i := 6) rfl)
theorem tw_4 {a0 : Array Value} {Z : State} (hw : ∀ d ∈ tables_1, d.before a0 Z = true) : (Jvm.Cond.declares ({ cls := "com/example/offer/offer/model/Role", name := "other", desc := "()Lcom/example/offer/offer/model/Role;" } : Jvm.MethodName)).before a0 Z = true := hw _ (List.mem_of_getElem? (i := 4) rfl)
theorem tw_5 {a0 : Array Value} {Z : State} (hw : ∀ d ∈ tables_1, d.before a0 Z = true) : (Jvm.Cond.instanceMethod ({ cls := "com/example/offer/offer/model/Role", name := "other", desc := "()Lcom/example/offer/offer/model/Role;" } : Jvm.MethodName)).before a0 Z = true := hw _ (List.mem_of_getElem? (i := 5) rfl)
theorem d1_13 : decode prog_5_method_4_code 13 = .ok (.getstatic 3, 3) := by decide +kernel
set_option maxRecDepth 65536 in
set_option maxHeartbeats 40000000 in
theorem rm1_8 (l : Launch) (Z : State) (a0 : Array Value) (hw : ∀ d ∈ tables_1, d.before a0 Z = true) (ws : List Jvm.Cond) (a_CONSUMER : Addr) (a_PROVIDER : Addr) (h0 : Heap) (n0 : Nat) (Z0 : n0 ≤ h0.size) (f1 : S_0 Z h0 (.ref a_PROVIDER)) (f2 : a_CONSUMER ≠ a_PROVIDER) :
    MetFree l M_0 (head1 (Jvm.Cond.code M_0 prog_5_method_4_code 1 (some (.object "com/example/offer/offer/model/Role")) :: ws) R_0_0_0_0) (fun a U => a = #[(.ref a_CONSUMER)] ∧ Z.Warmed39 U.vm ∧ U.heap = h0) (fun _ _ _ _ _ => True) (fun _ U o U' => ∃ v L, o = .returned v ∧ QP (some (.ref a_PROVIDER)) h0 n0 v U'.heap L ∧ FrameEnd U o U' L R_0_0_0_0.cells R_0_0_0_0.slots) := by
  refine MetFree.of_bodySF (plainFor_of_name pn_com_example_offer_offer_model_Role) hisR ?_
  intro p e s m args below meth c s₁ Bd hml0 hP hK
  obtain ⟨rfl, hZ, hh⟩ := hP
  have hx := Bd.exec
  have hby := Bd.bytes
  have hml : c.maxLocals = 1 := hml0
  have hown : s.vm.findClass "com/example/offer/offer/model/Role" = some m.cls := findClass_of_methodNamed Bd.named
  have hnm := (name_of_methodNamed Bd.named Bd.method).1
  have X0 : Stand p l e R_0_0_0_0 s m #[(.ref a_CONSUMER)] below meth c s₁ [] 0 0 := Stand.of_body Bd
  have e0 : s₁.heap = h0 := by rw [← hh, Bd.state]; rfl
  have N0 := Fr.nil n0
  obtain ⟨T1, X1, e1, st1⟩ := getS2 X0 hx hZ hown (host := "") (Or.inl (tw_8 hw)) Via.refl e0 f1 (g := (mkF m 1 #[.val (.ref a_CONSUMER)] [(.ref a_CONSUMER)])) rfl (hb hby d1_1)
  obtain ⟨T2, X2, e2, st2⟩ := getS2 X1 hx hZ hown (host := "") (Or.inl (tw_8 hw)) Via.refl e1 f1 (g := (mkF m 13 #[.val (.ref a_CONSUMER)] [])) rfl (hb hby d1_13)
  obtain ⟨fs, hr, hrun, hended, hW, hsame⟩ := X2.leave (v := (some (.ref a_PROVIDER))) (fun h => by rw [Bd.returns] at h; cases h)
  refine ⟨_, _, castTop (ef1_R m a_CONSUMER) ?_, hrun, hended, _, _, rfl, ?_, ⟨_, rfl⟩, hW, hsame.mono (by decide) (by decide)⟩
  · show Steps p.tables e below (s₁.setTop (mkF m 0 #[.val (.ref a_CONSUMER)] [])) _
    refine XS.aloadN X0.here hx rfl (hb hby d1_0) rfl rfl ?_
    show Steps p.tables e below (s₁.setTop (mkF m 1 #[.val (.ref a_CONSUMER)] [(.ref a_CONSUMER)])) _
    refine st1 _ ?_
    show Steps p.tables e below (T1.setTop (mkF m 4 #[.val (.ref a_CONSUMER)] [(.ref a_PROVIDER), (.ref a_CONSUMER)])) _
    refine Jvm.RoadKit.acmp (g := (mkF m 4 #[.val (.ref a_CONSUMER)] [(.ref a_PROVIDER), (.ref a_CONSUMER)])) X1 hx rfl rfl rfl (pc0 := 4) (pc' := 13) (same := false) rfl (hb hby d1_4) rfl (decide_eq_false fun q => f2 (Value.ref.inj q)) (by decide) (by decide) ?_
    show Steps p.tables e below (T1.setTop (mkF m 13 #[.val (.ref a_CONSUMER)] [])) _
    refine st2 _ ?_
    show Steps p.tables e below (T2.setTop (mkF m 16 #[.val (.ref a_CONSUMER)] [(.ref a_PROVIDER)])) _
    jvm_step X2.here [X2.here.top, hx, (hb hby d1_16), X2.method', Bd.returns, Value.isRef, FieldType.isReference]
    first | (intro acts; rw [hr _ acts rfl rfl rfl]) | rw [hr _ _ rfl rfl rfl]
    exact Steps.refl _
  · show QP (some (.ref a_PROVIDER)) h0 n0 _ T2.heap _
    rw [e2]
    exact ⟨rfl, N0, rfl⟩
theorem ef0_I (m : MethodId) (x0 : Int32) : entryFrame m #[(.int x0)] maxLocals = mkF m 0 #[.val (.int x0), .unset, .unset] [] := by first | (simp [entryFrame, mkF, argsToLocals, Value.category, maxLocals]; done) | rfl
theorem pn_com_example_offer_offer_model_RoleOtherPinLaw : plainName "com/example/offer/offer/model/RoleOtherPinLaw" = true := by first | (simp [plainName, overriddenIn]; done) | decide +kernel
set_option maxRecDepth 65536 in
set_option maxHeartbeats 40000000 in
theorem rm0_9 (l : Launch) (Z : State) (a0 : Array Value) (hw : ∀ d ∈ tables_1, d.before a0 Z = true) (ws : List Jvm.Cond) (p0 : Int32) (a_PROVIDER : Addr) (a_CONSUMER : Addr) (h0 : Heap) (n0 : Nat) (Z0 : n0 ≤ h0.size) (f1 : (p0 &&& (1 : Int32)) = (0 : Int32)) (f2 : S_0 Z h0 (.ref a_PROVIDER)) (f3 : S_1 Z h0 (.ref a_CONSUMER)) (f4 : E_0 Z h0 a_PROVIDER) (f5 : a_CONSUMER ≠ a_PROVIDER) (f6 : E_0 Z h0 a_CONSUMER) :
    MetFree l x (head1 (Jvm.Cond.code x code maxLocals ret :: ws) room_1) (fun a U => a = #[(.int p0)] ∧ Z.Warmed39 U.vm ∧ U.heap = h0) (fun _ _ _ _ _ => True) (fun _ U o U' => ∃ v L, o = .returned v ∧ QT n0 v U'.heap L ∧ FrameEnd U o U' L room_1.cells room_1.slots) := by
  refine MetFree.of_bodySF (plainFor_of_name pn_com_example_offer_offer_model_RoleOtherPinLaw) hisR ?_
  intro p e s m args below meth c s₁ Bd hml0 hP hK
  obtain ⟨rfl, hZ, hh⟩ := hP
  have hx := Bd.exec
  have hby := Bd.bytes
  have hml : c.maxLocals = 3 := hml0
  have hown : s.vm.findClass "com/example/offer/offer/model/RoleOtherPinLaw" = some m.cls := findClass_of_methodNamed Bd.named
  have hnm := (name_of_methodNamed Bd.named Bd.method).1
  have X0 : Stand p l e room_1 s m #[(.int p0)] below meth c s₁ [] 0 0 := Stand.of_body Bd
  have e0 : s₁.heap = h0 := by rw [← hh, Bd.state]; rfl
  have N0 := Fr.nil n0
  obtain ⟨T1, X1, e1, st1⟩ := getS2 X0 hx hZ hown (host := "") (Or.inl (tw_0 hw)) Via.refl e0 f2 (g := (mkF m 6 #[.val (.int p0), .unset, .unset] [])) rfl (hb hby at_6)
  -- pc 17: com/example/offer/offer/model/Role.other
  obtain ⟨cq2, kq2, q2a, q2b, q2c⟩ := isOf hZ e1 f4
  obtain ⟨_, _, ⟨T2, L2, k2, n2⟩, -, X2, ⟨Lc2, hQ2, l2, y2, z2⟩, st2⟩ := X1.virtualBack hx (y := M_0) (z := M_0) hown (mvT hZ (tw_3 hw)) (mvT hZ (tw_4 hw)) (notFace_of_selects (args := #[]) (mvT hZ (tw_6 hw))) (mvT hZ (tw_6 hw)) (mvT hZ (tw_5 hw)) (by decide) (backOf (W := 0) (rm1_7 l Z a0 hw [] a_PROVIDER a_CONSUMER h0 n0 Z0 f2 f3) hZ (tw_7 hw) (tw_1 hw) (by decide) (by decide)) q2a q2c (g := (mkF m 17 #[.val (.int p0), .val (.ref a_PROVIDER), .unset] [(.ref a_PROVIDER)])) rfl (by rw [hml]; rfl) (Steps.refl _) (argsL := []) (rest := []) (lenOf pd_0 rfl) rfl (by show 2 * 0 + _ ≤ _; exact Nat.le_of_eq rfl) (hb hby at_17) (fun _ _ => ⟨rfl, e1, (by decide : 0 + 0 ≤ _), (by decide : 0 + 0 ≤ _)⟩)
  dsimp only [Pt.U, Pt.locs, Pt.cells, Pt.slots] at X2 l2 y2 z2 st2 hQ2
  subst l2 y2 z2
  obtain ⟨rfl, Nq2, e2⟩ := hQ2
  have N2 := Fr.app N0 Nq2
  -- pc 33: com/example/offer/offer/model/Role.other
  obtain ⟨cq3, kq3, q3a, q3b, q3c⟩ := isOf hZ e2 f6
  obtain ⟨_, _, ⟨T3, L3, k3, n3⟩, -, X3, ⟨Lc3, hQ3, l3, y3, z3⟩, st3⟩ := X2.virtualBack hx (y := M_0) (z := M_0) hown (mvT hZ (tw_3 hw)) (mvT hZ (tw_4 hw)) (notFace_of_selects (args := #[]) (mvT hZ (tw_6 hw))) (mvT hZ (tw_6 hw)) (mvT hZ (tw_5 hw)) (by decide) (backOf (W := 0) (rm1_8 l Z a0 hw [] a_CONSUMER a_PROVIDER h0 n0 Z0 f2 f5) hZ (tw_7 hw) (tw_1 hw) (by decide) (by decide)) q3a q3c (g := (mkF m 33 #[.val (.int p0), .val (.ref a_PROVIDER), .val (.ref a_CONSUMER)] [(.ref a_CONSUMER)])) rfl (by rw [hml]; rfl) (Steps.refl _) (argsL := []) (rest := []) (lenOf pd_0 rfl) rfl (by show 2 * 0 + _ ≤ _; exact Nat.le_of_eq rfl) (hb hby at_33) (fun _ _ => ⟨rfl, e2, (by decide : 0 + 0 ≤ _), (by decide : 0 + 0 ≤ _)⟩)
  dsimp only [Pt.U, Pt.locs, Pt.cells, Pt.slots] at X3 l3 y3 z3 st3 hQ3
  subst l3 y3 z3
  obtain ⟨rfl, Nq3, e3⟩ := hQ3
  have N3 := Fr.app N2 Nq3
  obtain ⟨fs, hr, hrun, hended, hW, hsame⟩ := X3.leave (v := (some (.int 1))) (fun h => by rw [Bd.returns] at h; cases h)
  refine ⟨_, _, castTop (ef0_I m p0) ?_, hrun, hended, _, _, rfl, ?_, ⟨_, rfl⟩, hW, hsame.mono (by decide) (by decide)⟩
  · show Steps p.tables e below (s₁.setTop (mkF m 0 #[.val (.int p0), .unset, .unset] [])) _
    refine XS.iloadN X0.here hx rfl (hb hby at_0) rfl ?_
    refine XS.iconst X0.here hx rfl (hb hby at_1) ?_
    show Steps p.tables e below (s₁.setTop (mkF m 2 #[.val (.int p0), .unset, .unset] [(.int 1), (.int p0)])) _
    refine XS.iand X0.here hx rfl (hb hby at_2) rfl ?_
    show Steps p.tables e below (s₁.setTop (mkF m 3 #[.val (.int p0), .unset, .unset] [(.int (p0 &&& (1 : Int32)))])) _
    rw [f1]
    refine XS.ifNo X0.here hx rfl (hb hby at_3) rfl (by decide) ?_
    show Steps p.tables e below (s₁.setTop (mkF m 6 #[.val (.int p0), .unset, .unset] [])) _
    refine st1 _ ?_
    refine XS.goto X1.here hx rfl (pc0 := 9) (pc' := 15) rfl (hb hby at_9) (by decide) (by decide) ?_
    refine XS.astoreN X1.here hx rfl (hb hby at_15) rfl rfl (l' := #[.val (.int p0), .val (.ref a_PROVIDER), .unset]) rfl ?_
    refine XS.aloadN X1.here hx rfl (hb hby at_16) rfl rfl ?_
    show Steps p.tables e below (T1.setTop (mkF m 17 #[.val (.int p0), .val (.ref a_PROVIDER), .unset] [(.ref a_PROVIDER)])) _
    refine st2.trans ?_
    refine XS.astoreN X2.here hx rfl (hb hby at_20) rfl rfl (l' := #[.val (.int p0), .val (.ref a_PROVIDER), .val (.ref a_CONSUMER)]) rfl ?_
    refine XS.aloadN X2.here hx rfl (hb hby at_21) rfl rfl ?_
    refine XS.ifnonnullYes X2.here hx rfl (pc0 := 22) (pc' := 27) rfl (hb hby at_22) rfl (by decide) (by decide) ?_
    refine XS.aloadN X2.here hx rfl (hb hby at_27) rfl rfl ?_
    show Steps p.tables e below (T2.setTop (mkF m 28 #[.val (.int p0), .val (.ref a_PROVIDER), .val (.ref a_CONSUMER)] [(.ref a_CONSUMER)])) _
    refine XS.aloadN X2.here hx rfl (hb hby at_28) rfl rfl ?_
    show Steps p.tables e below (T2.setTop (mkF m 29 #[.val (.int p0), .val (.ref a_PROVIDER), .val (.ref a_CONSUMER)] [(.ref a_PROVIDER), (.ref a_CONSUMER)])) _
    refine Jvm.RoadKit.acmp (g := (mkF m 29 #[.val (.int p0), .val (.ref a_PROVIDER), .val (.ref a_CONSUMER)] [(.ref a_PROVIDER), (.ref a_CONSUMER)])) X2 hx rfl rfl rfl (pc0 := 29) (pc' := 32) (same := false) rfl (hb hby at_29) rfl (decide_eq_false fun q => f5 (Value.ref.inj q)) (by decide) (by decide) ?_
    refine XS.aloadN X2.here hx rfl (hb hby at_32) rfl rfl ?_
    show Steps p.tables e below (T2.setTop (mkF m 33 #[.val (.int p0), .val (.ref a_PROVIDER), .val (.ref a_CONSUMER)] [(.ref a_CONSUMER)])) _
    refine st3.trans ?_
    refine XS.aloadN X3.here hx rfl (hb hby at_36) rfl rfl ?_
    show Steps p.tables e below (T3.setTop (mkF m 37 #[.val (.int p0), .val (.ref a_PROVIDER), .val (.ref a_CONSUMER)] [(.ref a_PROVIDER), (.ref a_PROVIDER)])) _
    refine Jvm.RoadKit.acmp (g := (mkF m 37 #[.val (.int p0), .val (.ref a_PROVIDER), .val (.ref a_CONSUMER)] [(.ref a_PROVIDER), (.ref a_PROVIDER)])) X3 hx rfl rfl rfl (pc0 := 37) (pc' := 40) (same := true) rfl (hb hby at_37) rfl (decide_eq_true rfl) (by decide) (by decide) ?_
    refine XS.iconst X3.here hx rfl (hb hby at_40) ?_
    refine XS.goto X3.here hx rfl (pc0 := 41) (pc' := 45) rfl (hb hby at_41) (by decide) (by decide) ?_
    show Steps p.tables e below (T3.setTop (mkF m 45 #[.val (.int p0), .val (.ref a_PROVIDER), .val (.ref a_CONSUMER)] [(.int 1)])) _
    exact retN X3 hx (t := .boolean) Bd.returns (by simp) (hb hby at_45) hr
  · show QT n0 _ T3.heap _
    rw [e3]
    exact ⟨rfl, N3⟩
theorem tw_11 {a0 : Array Value} {Z : State} (hw : ∀ d ∈ tables_1, d.before a0 Z = true) : (Jvm.Cond.fieldLink "com/example/offer/offer/model/RoleOtherPinLaw" (13 : Nat) "com/example/offer/offer/model/Role" "CONSUMER" "Lcom/example/offer/offer/model/Role;").before a0 Z = true := hw _ (List.mem_of_getElem? (i := 11) rfl)
set_option maxRecDepth 65536 in
set_option maxHeartbeats 40000000 in
theorem rm0_10 (l : Launch) (Z : State) (a0 : Array Value) (hw : ∀ d ∈ tables_1, d.before a0 Z = true) (ws : List Jvm.Cond) (p0 : Int32) (a_CONSUMER : Addr) (a_PROVIDER : Addr) (h0 : Heap) (n0 : Nat) (Z0 : n0 ≤ h0.size) (f1 : (p0 &&& (1 : Int32)) = (1 : Int32)) (f2 : S_1 Z h0 (.ref a_CONSUMER)) (f3 : S_0 Z h0 (.ref a_PROVIDER)) (f4 : a_CONSUMER ≠ a_PROVIDER) (f5 : E_0 Z h0 a_CONSUMER) (f6 : E_0 Z h0 a_PROVIDER) :
    MetFree l x (head1 (Jvm.Cond.code x code maxLocals ret :: ws) room_1) (fun a U => a = #[(.int p0)] ∧ Z.Warmed39 U.vm ∧ U.heap = h0) (fun _ _ _ _ _ => True) (fun _ U o U' => ∃ v L, o = .returned v ∧ QT n0 v U'.heap L ∧ FrameEnd U o U' L room_1.cells room_1.slots) := by
  refine MetFree.of_bodySF (plainFor_of_name pn_com_example_offer_offer_model_RoleOtherPinLaw) hisR ?_
  intro p e s m args below meth c s₁ Bd hml0 hP hK
  obtain ⟨rfl, hZ, hh⟩ := hP
  have hx := Bd.exec
  have hby := Bd.bytes
  have hml : c.maxLocals = 3 := hml0
  have hown : s.vm.findClass "com/example/offer/offer/model/RoleOtherPinLaw" = some m.cls := findClass_of_methodNamed Bd.named
  have hnm := (name_of_methodNamed Bd.named Bd.method).1
  have X0 : Stand p l e room_1 s m #[(.int p0)] below meth c s₁ [] 0 0 := Stand.of_body Bd
  have e0 : s₁.heap = h0 := by rw [← hh, Bd.state]; rfl
  have N0 := Fr.nil n0
  obtain ⟨T1, X1, e1, st1⟩ := getS2 X0 hx hZ hown (host := "") (Or.inl (tw_11 hw)) Via.refl e0 f2 (g := (mkF m 12 #[.val (.int p0), .unset, .unset] [])) rfl (hb hby at_12)
  -- pc 17: com/example/offer/offer/model/Role.other
  obtain ⟨cq2, kq2, q2a, q2b, q2c⟩ := isOf hZ e1 f5
  obtain ⟨_, _, ⟨T2, L2, k2, n2⟩, -, X2, ⟨Lc2, hQ2, l2, y2, z2⟩, st2⟩ := X1.virtualBack hx (y := M_0) (z := M_0) hown (mvT hZ (tw_3 hw)) (mvT hZ (tw_4 hw)) (notFace_of_selects (args := #[]) (mvT hZ (tw_6 hw))) (mvT hZ (tw_6 hw)) (mvT hZ (tw_5 hw)) (by decide) (backOf (W := 0) (rm1_8 l Z a0 hw [] a_CONSUMER a_PROVIDER h0 n0 Z0 f3 f4) hZ (tw_7 hw) (tw_1 hw) (by decide) (by decide)) q2a q2c (g := (mkF m 17 #[.val (.int p0), .val (.ref a_CONSUMER), .unset] [(.ref a_CONSUMER)])) rfl (by rw [hml]; rfl) (Steps.refl _) (argsL := []) (rest := []) (lenOf pd_0 rfl) rfl (by show 2 * 0 + _ ≤ _; exact Nat.le_of_eq rfl) (hb hby at_17) (fun _ _ => ⟨rfl, e1, (by decide : 0 + 0 ≤ _), (by decide : 0 + 0 ≤ _)⟩)
  dsimp only [Pt.U, Pt.locs, Pt.cells, Pt.slots] at X2 l2 y2 z2 st2 hQ2
  subst l2 y2 z2
  obtain ⟨rfl, Nq2, e2⟩ := hQ2
  have N2 := Fr.app N0 Nq2
  -- pc 33: com/example/offer/offer/model/Role.other
  obtain ⟨cq3, kq3, q3a, q3b, q3c⟩ := isOf hZ e2 f6
  obtain ⟨_, _, ⟨T3, L3, k3, n3⟩, -, X3, ⟨Lc3, hQ3, l3, y3, z3⟩, st3⟩ := X2.virtualBack hx (y := M_0) (z := M_0) hown (mvT hZ (tw_3 hw)) (mvT hZ (tw_4 hw)) (notFace_of_selects (args := #[]) (mvT hZ (tw_6 hw))) (mvT hZ (tw_6 hw)) (mvT hZ (tw_5 hw)) (by decide) (backOf (W := 0) (rm1_7 l Z a0 hw [] a_PROVIDER a_CONSUMER h0 n0 Z0 f3 f2) hZ (tw_7 hw) (tw_1 hw) (by decide) (by decide)) q3a q3c (g := (mkF m 33 #[.val (.int p0), .val (.ref a_CONSUMER), .val (.ref a_PROVIDER)] [(.ref a_PROVIDER)])) rfl (by rw [hml]; rfl) (Steps.refl _) (argsL := []) (rest := []) (lenOf pd_0 rfl) rfl (by show 2 * 0 + _ ≤ _; exact Nat.le_of_eq rfl) (hb hby at_33) (fun _ _ => ⟨rfl, e2, (by decide : 0 + 0 ≤ _), (by decide : 0 + 0 ≤ _)⟩)
  dsimp only [Pt.U, Pt.locs, Pt.cells, Pt.slots] at X3 l3 y3 z3 st3 hQ3
  subst l3 y3 z3
  obtain ⟨rfl, Nq3, e3⟩ := hQ3
  have N3 := Fr.app N2 Nq3
  obtain ⟨fs, hr, hrun, hended, hW, hsame⟩ := X3.leave (v := (some (.int 1))) (fun h => by rw [Bd.returns] at h; cases h)
  refine ⟨_, _, castTop (ef0_I m p0) ?_, hrun, hended, _, _, rfl, ?_, ⟨_, rfl⟩, hW, hsame.mono (by decide) (by decide)⟩
  · show Steps p.tables e below (s₁.setTop (mkF m 0 #[.val (.int p0), .unset, .unset] [])) _
    refine XS.iloadN X0.here hx rfl (hb hby at_0) rfl ?_
    refine XS.iconst X0.here hx rfl (hb hby at_1) ?_
    show Steps p.tables e below (s₁.setTop (mkF m 2 #[.val (.int p0), .unset, .unset] [(.int 1), (.int p0)])) _
    refine XS.iand X0.here hx rfl (hb hby at_2) rfl ?_
    show Steps p.tables e below (s₁.setTop (mkF m 3 #[.val (.int p0), .unset, .unset] [(.int (p0 &&& (1 : Int32)))])) _
    rw [f1]
    refine XS.ifYes X0.here hx rfl (pc0 := 3) (pc' := 12) rfl (hb hby at_3) rfl (by decide) (by decide) (by decide) ?_
    show Steps p.tables e below (s₁.setTop (mkF m 12 #[.val (.int p0), .unset, .unset] [])) _
    refine st1 _ ?_
    refine XS.astoreN X1.here hx rfl (hb hby at_15) rfl rfl (l' := #[.val (.int p0), .val (.ref a_CONSUMER), .unset]) rfl ?_
    refine XS.aloadN X1.here hx rfl (hb hby at_16) rfl rfl ?_
    show Steps p.tables e below (T1.setTop (mkF m 17 #[.val (.int p0), .val (.ref a_CONSUMER), .unset] [(.ref a_CONSUMER)])) _
    refine st2.trans ?_
    refine XS.astoreN X2.here hx rfl (hb hby at_20) rfl rfl (l' := #[.val (.int p0), .val (.ref a_CONSUMER), .val (.ref a_PROVIDER)]) rfl ?_
    refine XS.aloadN X2.here hx rfl (hb hby at_21) rfl rfl ?_
    refine XS.ifnonnullYes X2.here hx rfl (pc0 := 22) (pc' := 27) rfl (hb hby at_22) rfl (by decide) (by decide) ?_
    refine XS.aloadN X2.here hx rfl (hb hby at_27) rfl rfl ?_
    show Steps p.tables e below (T2.setTop (mkF m 28 #[.val (.int p0), .val (.ref a_CONSUMER), .val (.ref a_PROVIDER)] [(.ref a_PROVIDER)])) _
    refine XS.aloadN X2.here hx rfl (hb hby at_28) rfl rfl ?_
    show Steps p.tables e below (T2.setTop (mkF m 29 #[.val (.int p0), .val (.ref a_CONSUMER), .val (.ref a_PROVIDER)] [(.ref a_CONSUMER), (.ref a_PROVIDER)])) _
    refine Jvm.RoadKit.acmp (g := (mkF m 29 #[.val (.int p0), .val (.ref a_CONSUMER), .val (.ref a_PROVIDER)] [(.ref a_CONSUMER), (.ref a_PROVIDER)])) X2 hx rfl rfl rfl (pc0 := 29) (pc' := 32) (same := false) rfl (hb hby at_29) rfl (decide_eq_false fun q => (Ne.symm f4) (Value.ref.inj q)) (by decide) (by decide) ?_
    refine XS.aloadN X2.here hx rfl (hb hby at_32) rfl rfl ?_
    show Steps p.tables e below (T2.setTop (mkF m 33 #[.val (.int p0), .val (.ref a_CONSUMER), .val (.ref a_PROVIDER)] [(.ref a_PROVIDER)])) _
    refine st3.trans ?_
    refine XS.aloadN X3.here hx rfl (hb hby at_36) rfl rfl ?_
    show Steps p.tables e below (T3.setTop (mkF m 37 #[.val (.int p0), .val (.ref a_CONSUMER), .val (.ref a_PROVIDER)] [(.ref a_CONSUMER), (.ref a_CONSUMER)])) _
    refine Jvm.RoadKit.acmp (g := (mkF m 37 #[.val (.int p0), .val (.ref a_CONSUMER), .val (.ref a_PROVIDER)] [(.ref a_CONSUMER), (.ref a_CONSUMER)])) X3 hx rfl rfl rfl (pc0 := 37) (pc' := 40) (same := true) rfl (hb hby at_37) rfl (decide_eq_true rfl) (by decide) (by decide) ?_
    refine XS.iconst X3.here hx rfl (hb hby at_40) ?_
    refine XS.goto X3.here hx rfl (pc0 := 41) (pc' := 45) rfl (hb hby at_41) (by decide) (by decide) ?_
    show Steps p.tables e below (T3.setTop (mkF m 45 #[.val (.int p0), .val (.ref a_CONSUMER), .val (.ref a_PROVIDER)] [(.int 1)])) _
    exact retN X3 hx (t := .boolean) Bd.returns (by simp) (hb hby at_45) hr
  · show QT n0 _ T3.heap _
    rw [e3]
    exact ⟨rfl, N3⟩
set_option maxRecDepth 65536 in
set_option maxHeartbeats 40000000 in
theorem comes_1 {Post : Tables → Env → Array Value → State → Outcome → State → Prop} (hpost : ∀ tb e args s v u, (limb_1_1.after args s (.returned v) u = true ∧ limb_1_2.after args s (.returned v) u = true ∧ True) → FrameEnd s (.returned v) u (Jvm.fieldLocs frame_1_writes args s ++ Jvm.arrayLocs frame_1_arrays args s ++ Jvm.staticLocs frame_1_statics s) 0 0 → Post tb e args s (.returned v) u) :
    ArmFor flags0 classFile x code maxLocals ret World_1 tables_1 room_1 Calls_1 rest_1 Pre_1 Post := by
  intro l hfl _ _ p e ha hc hk s m args below hf hA hF happ hP
  obtain ⟨hcalls, hrest, hpre⟩ := hP
  obtain ⟨-, -, -, hnamed, -, -, -, hat⟩ := (Spec.applies_iff hf).mp happ
  obtain ⟨hg, hn⟩ := and_e (Cond.before_iff.mp (show (Jvm.Cond.and given_1 narrow_1).before args s = true from hpre))
  obtain ⟨k11, k12⟩ := and_e hg
  obtain ⟨w0, rfl⟩ : ∃ w0 : Value, args = #[w0] := by
    have hs : args.size = 1 := by simpa [Cond.value, given_1] using k11
    obtain ⟨L⟩ := args
    match L, hs with
    | [w0], _ => exact ⟨w0, rfl⟩
  have hw := fun d (hd : d ∈ tables_1) => atoms_spec (ws := Jvm.Cond.code x code maxLocals ret :: tables_1) hat d (List.mem_cons_of_mem _ hd)
  have hfit : Fit s := fun {y c} hc i hi => by
    obtain ⟨ha, rfl⟩ := Array.getElem?_eq_some_iff.mp hc
    have q := List.all_eq_true.mp ((Array.all_eq_true_iff_forall_mem.mp hF) _ (Array.getElem_mem ha)) i (List.mem_range.mpr hi)
    simpa [Array.getElem?_eq_getElem hi] using q
  obtain ⟨p0, ei0⟩ := is_v k12
  obtain rfl : w0 = (.int p0) := Option.some.inj ei0
  obtain ⟨g1, g2⟩ := and_e hn
  obtain ⟨g3, g4⟩ := and_e g2
  obtain ⟨g5, g6⟩ := and_e g4
  obtain ⟨a_PROVIDER, ev_a_PROVIDER⟩ := exa_v g1
  have S_a_PROVIDER : Sta s s.heap "com/example/offer/offer/model/Role" "PROVIDER" "Lcom/example/offer/offer/model/Role;" (.ref a_PROVIDER) := Sta.start ev_a_PROVIDER (Or.inr ⟨(tw_1 hw), (tw_2 hw)⟩)
  have E_a_PROVIDER : Exa s s.heap a_PROVIDER "com/example/offer/offer/model/Role" := Exa.start ev_a_PROVIDER g1
  obtain ⟨a_CONSUMER, ev_a_CONSUMER⟩ := exa_v g3
  have S_a_CONSUMER : Sta s s.heap "com/example/offer/offer/model/Role" "CONSUMER" "Lcom/example/offer/offer/model/Role;" (.ref a_CONSUMER) := Sta.start ev_a_CONSUMER (Or.inr ⟨(tw_1 hw), (tw_10 hw)⟩)
  have E_a_CONSUMER : Exa s s.heap a_CONSUMER "com/example/offer/offer/model/Role" := Exa.start ev_a_CONSUMER g3
  have F_ordinal_a_CONSUMER : Fld s s.heap a_CONSUMER "java/lang/Enum" "ordinal" "I" (.int (1 : Int32)) := own_fld ev_a_CONSUMER g5
  have F_ordinal_a_PROVIDER : Fld s s.heap a_PROVIDER "java/lang/Enum" "ordinal" "I" (.int (0 : Int32)) := own_fld ev_a_PROVIDER g6
  have M : MetFree l x (head1 (Jvm.Cond.code x code maxLocals ret :: tables_1) room_1) (fun a U => a = #[(.int p0)] ∧ s.Warmed39 U.vm ∧ U.heap = s.heap) (fun _ _ _ _ _ => True) (fun _ U o U' => ∃ v L, o = .returned v ∧ QT s.heap.size v U'.heap L ∧ FrameEnd U o U' L room_1.cells room_1.slots) := by
    rcases own_and1 p0 with hk | hk
    · exact rm0_9 l s _ hw tables_1 p0 a_PROVIDER a_CONSUMER s.heap s.heap.size (Nat.le_refl _) hk S_a_PROVIDER S_a_CONSUMER E_a_PROVIDER (Fld.ne F_ordinal_a_CONSUMER F_ordinal_a_PROVIDER (by decide)) E_a_CONSUMER
    · exact rm0_10 l s _ hw tables_1 p0 a_CONSUMER a_PROVIDER s.heap s.heap.size (Nat.le_refl _) hk S_a_CONSUMER S_a_PROVIDER (Fld.ne F_ordinal_a_CONSUMER F_ordinal_a_PROVIDER (by decide)) E_a_CONSUMER E_a_PROVIDER
  obtain ⟨n, o, h1, h2, h3, _, L, rfl, ⟨rfl, N⟩, hq⟩ := M p e ha hc hk s m _ below hf ((Spec.applies_iff_loose hf).mp happ).1 ⟨rfl, State.Warmed39.refl s, rfl⟩ trivial
  refine ⟨n, _, h1, h2, h3, hpost _ _ _ _ _ _ ⟨Cond.after_iff.mpr rfl, Cond.after_iff.mpr (eq_i res_at (Term.int_eval (1)) rfl), trivial⟩ ⟨hq.1, hq.2.1, (hq.2.2.sift fun y hy => Or.inr (N y hy)).mono (by decide) (by decide)⟩⟩
theorem main_1_1 : Claimed_1_1 := comes_1 fun _ _ _ _ _ _ h hF => ⟨h.1, hF⟩
theorem main_1_2 : Claimed_1_2 := comes_1 fun _ _ _ _ _ _ h hF => ⟨h.2.1, hF⟩
end Jvm.Pilot.@@N@@
namespace Jvm.Pilot.@@N@@
open Jvm Jvm.ClassFile Sem Op Lib Jvm.Free Jvm.Stand Jvm.Pilot.@@N@@.Jvm.D
/-! MADE BY PROGRAM (witnessworld.py) out of the Statement's table words and the real class files: 10 classes; the members and pool entries that the words name. The judged class is class 1, her method 1. -/
namespace start1
open Jvm.ClassFile
def u (s : String) : CpInfo := .utf8 (stringToUtf16 s)
/-- a pool by its gaps: so many unusable entries, then the entry; so many at the end -/
def gap : Nat → List CpInfo → List CpInfo
  | 0, r => r
  | n + 1, r => .unusable :: gap n r
def poolList (es : List (Nat × CpInfo)) (last : Nat) : List CpInfo := es.foldr (fun e r => gap e.1 (e.2 :: r)) (gap last [])
def pool (es : List (Nat × CpInfo)) (last : Nat) : Array CpInfo := ⟨poolList es last⟩
def fileOf (pool : Array CpInfo) (this : Nat) (attrs : Array Attribute := #[]) (ms : Array MethodInfo := #[]) (fl : Nat := 33) (sup : Nat := 0) (ifs : Array Nat := #[]) (fds : Array FieldInfo := #[]) : ClassFile where
  minorVersion := 0
  majorVersion := 65
  constantPool := pool
  accessFlags := fl
  thisClass := this
  superClass := sup
  interfaces := ifs
  fields := fds
  methods := ms
  attributes := attrs
def plain (name : String) (sup : Option ClassId) : Class where
  name := name
  kind := .ordinary
  loader := none
  accessFlags := 33
  super := sup
  interfaces := #[]
  cf := none
  fields := #[]
  methods := #[]
  instanceTypes := #[]
  staticTypes := #[]
  resolved := #[]
  callSites := []
  init := .initialized
  statics := none
  mirror := none

def pool0 : Array CpInfo := pool [(5, u "<init>"), (0, u "()V"), (1, .class_ 10), (1, u "java/lang/Object")] 113

def k0m0 : Method := { name := "<init>", desc := "()V", sig := { parameters := [], returnType := none }, accessFlags := 1, code := none }
/-- java/lang/Object -/
def k0 : Class := { plain "java/lang/Object" none with
  accessFlags := 33
  interfaces := #[]
  cf := some (fileOf pool0 8 #[] #[{ accessFlags := 1, nameIndex := 5, descriptorIndex := 6, attributes := #[] }] 33 0 #[] #[])
  fields := #[]
  methods := #[k0m0]
  instanceTypes := #[]
  staticTypes := #[]
  resolved := Array.replicate 124 none
  statics := none }

def pool1 : Array CpInfo := pool [(2, .class_ 4), (1, u "java/lang/Object"), (0, u "<init>"), (0, u "()V"), (0, .fieldref 8 9), (0, .class_ 10), (0, .nameAndType 11 12), (0, u "com/example/offer/offer/model/Role"), (0, u "PROVIDER"), (0, u "Lcom/example/offer/offer/model/Role;"), (0, .fieldref 8 14), (0, .nameAndType 15 12), (0, u "CONSUMER"), (0, .methodref 8 17), (0, .nameAndType 18 19), (0, u "other"), (0, u "()Lcom/example/offer/offer/model/Role;"), (0, .class_ 21), (0, u "com/example/offer/offer/model/RoleOtherPinLaw"), (2, u "law"), (0, u "(I)Z")] 3

def k1m0 : Method := { name := "<init>", desc := "()V", sig := { parameters := [], returnType := none }, accessFlags := 1, code := none }
def k1c1 : Code := { maxStack := 2, maxLocals := 3, code := code, exceptionTable := #[], attributes := #[] }
def k1m1 : Method := { name := "law", desc := "(I)Z", sig := { parameters := [.int], returnType := some .boolean }, accessFlags := 9, code := some k1c1 }
/-- com/example/offer/offer/model/RoleOtherPinLaw -/
def k1 : Class := { plain "com/example/offer/offer/model/RoleOtherPinLaw" (some 0) with
  accessFlags := 49
  interfaces := #[]
  cf := some (fileOf pool1 20 #[] #[{ accessFlags := 1, nameIndex := 5, descriptorIndex := 6, attributes := #[] }, { accessFlags := 9, nameIndex := 24, descriptorIndex := 25, attributes := #[] }] 49 2 #[] #[])
  fields := #[]
  methods := #[k1m0, k1m1]
  instanceTypes := #[]
  staticTypes := #[]
  resolved := Array.replicate 29 none
  statics := none }

def pool2 : Array CpInfo := pool [(1, .class_ 2), (0, u "java/lang/constant/Constable"), (0, .class_ 4), (0, u "java/lang/Object")] 6

/-- java/lang/constant/Constable -/
def k2 : Class := { plain "java/lang/constant/Constable" (some 0) with
  accessFlags := 1537
  interfaces := #[]
  cf := some (fileOf pool2 1 #[] #[] 1537 3 #[] #[])
  fields := #[]
  methods := #[]
  instanceTypes := #[]
  staticTypes := #[]
  resolved := Array.replicate 11 none
  statics := none }

def pool3 : Array CpInfo := pool [(1, .class_ 2), (0, u "java/lang/Comparable"), (0, .class_ 4), (0, u "java/lang/Object")] 7

/-- java/lang/Comparable -/
def k3 : Class := { plain "java/lang/Comparable" (some 0) with
  accessFlags := 1537
  interfaces := #[]
  cf := some (fileOf pool3 1 #[] #[] 1537 3 #[] #[])
  fields := #[]
  methods := #[]
  instanceTypes := #[]
  staticTypes := #[]
  resolved := Array.replicate 12 none
  statics := none }

def pool4 : Array CpInfo := pool [(1, .class_ 2), (0, u "java/io/Serializable"), (0, .class_ 4), (0, u "java/lang/Object")] 2

/-- java/io/Serializable -/
def k4 : Class := { plain "java/io/Serializable" (some 0) with
  accessFlags := 1537
  interfaces := #[]
  cf := some (fileOf pool4 1 #[] #[] 1537 3 #[] #[])
  fields := #[]
  methods := #[]
  instanceTypes := #[]
  staticTypes := #[]
  resolved := Array.replicate 7 none
  statics := none }

def pool5 : Array CpInfo := pool [(2, .class_ 4), (1, u "java/lang/Enum"), (0, u "name"), (0, u "Ljava/lang/String;"), (2, u "ordinal"), (0, u "I"), (1, .class_ 14), (1, u "java/lang/Object"), (4, u "hash"), (86, .class_ 108), (1, u "java/lang/Enum$EnumDesc"), (2, .class_ 112), (0, u "java/lang/constant/Constable"), (0, .class_ 114), (0, u "java/lang/Comparable"), (0, .class_ 116), (0, u "java/io/Serializable")] 87

/-- java/lang/Enum -/
def k5 : Class := { plain "java/lang/Enum" (some 0) with
  accessFlags := 1057
  interfaces := #[2, 3, 4]
  cf := some (fileOf pool5 2 #[.nestMembers #[106]] #[] 1057 12 #[111, 113, 115] #[{ accessFlags := 18, nameIndex := 5, descriptorIndex := 6, attributes := #[] }, { accessFlags := 18, nameIndex := 9, descriptorIndex := 10, attributes := #[] }, { accessFlags := 2, nameIndex := 19, descriptorIndex := 10, attributes := #[] }])
  fields := #[{ name := "name", type := (.object "java/lang/String"), accessFlags := 18, slot := 0, constantValue := 0 }, { name := "ordinal", type := .int, accessFlags := 18, slot := 1, constantValue := 0 }, { name := "hash", type := .int, accessFlags := 2, slot := 2, constantValue := 0 }]
  methods := #[]
  instanceTypes := #[(.object "java/lang/String"), .int, .int]
  staticTypes := #[]
  resolved := Array.replicate 204 none
  statics := none }

def pool6 : Array CpInfo := pool [(1, .class_ 2), (0, u "com/example/offer/offer/model/Role"), (0, .fieldref 1 4), (0, .nameAndType 5 6), (0, u "PROVIDER"), (0, u "Lcom/example/offer/offer/model/Role;"), (0, .fieldref 1 8), (0, .nameAndType 9 6), (0, u "CONSUMER"), (2, u "$VALUES"), (0, u "[Lcom/example/offer/offer/model/Role;"), (6, .class_ 22), (1, u "java/lang/Enum"), (20, u "other"), (0, u "()Lcom/example/offer/offer/model/Role;")] 5

def k6c0 : Code := { maxStack := 2, maxLocals := 1, code := prog_5_method_4_code, exceptionTable := #[], attributes := #[] }
def k6m0 : Method := { name := "other", desc := "()Lcom/example/offer/offer/model/Role;", sig := { parameters := [], returnType := some (.object "com/example/offer/offer/model/Role") }, accessFlags := 1, code := some k6c0 }
/-- com/example/offer/offer/model/Role -/
def k6 : Class := { plain "com/example/offer/offer/model/Role" (some 5) with
  accessFlags := 16433
  interfaces := #[]
  cf := some (fileOf pool6 1 #[] #[{ accessFlags := 1, nameIndex := 43, descriptorIndex := 44, attributes := #[] }] 16433 20 #[] #[{ accessFlags := 16409, nameIndex := 5, descriptorIndex := 6, attributes := #[] }, { accessFlags := 16409, nameIndex := 9, descriptorIndex := 6, attributes := #[] }, { accessFlags := 4122, nameIndex := 12, descriptorIndex := 13, attributes := #[] }])
  fields := #[{ name := "PROVIDER", type := (.object "com/example/offer/offer/model/Role"), accessFlags := 16409, slot := 0, constantValue := 0 }, { name := "CONSUMER", type := (.object "com/example/offer/offer/model/Role"), accessFlags := 16409, slot := 1, constantValue := 0 }, { name := "$VALUES", type := (.array (.object "com/example/offer/offer/model/Role")), accessFlags := 4122, slot := 2, constantValue := 0 }]
  methods := #[k6m0]
  instanceTypes := #[(.object "java/lang/String"), .int, .int]
  staticTypes := #[(.object "com/example/offer/offer/model/Role"), (.object "com/example/offer/offer/model/Role"), (.array (.object "com/example/offer/offer/model/Role"))]
  resolved := Array.replicate 50 none
  statics := some 0 }

def pool7 : Array CpInfo := pool [(1, u "java/lang/Cloneable"), (0, .class_ 1), (0, u "java/lang/Object"), (0, .class_ 3)] 3

/-- java/lang/Cloneable -/
def k7 : Class := { plain "java/lang/Cloneable" (some 0) with
  accessFlags := 1537
  interfaces := #[]
  cf := some (fileOf pool7 2 #[] #[] 1537 4 #[] #[])
  fields := #[]
  methods := #[]
  instanceTypes := #[]
  staticTypes := #[]
  resolved := Array.replicate 8 none
  statics := none }

/-- the primitive byte -/
def k8 : Class := { plain "byte" none with kind := .primitive 'B', accessFlags := 0x411 }
/-- [B -/
def k9 : Class := { plain "[B" (some 0) with kind := .array 8 .byte, interfaces := #[7, 4], accessFlags := 1041 }

def heap : Heap := #[{ cls := 6, slots := #[.ref 1, .ref 2, .null], vm := .statics 6 },
  { cls := 6, slots := #[.null, .int 0, .int 0], vm := .none },
  { cls := 6, slots := #[.null, .int 1, .int 0], vm := .none }]
def classes : Array Class := #[k0, k1, k2, k3, k4, k5, k6, k7, k8, k9]
def interned : List (Array UInt16 × Addr) := []
def slotsUsed : Nat := 9
def theMethod : MethodId := ⟨1, 1⟩
def args0 : Array Value := #[.int 5]
def aboutOver (below : List Frame) : State where
  vm := { classes := classes, interned := interned.toArray }
  heap := heap
  slotsUsed := slotsUsed
  threads := #[{ frames := .invoking theMethod args0 :: below }]
def below0 : List Frame := [.native { method := ⟨0, 0⟩, args := #[] }]
def about1 : State := aboutOver below0
def p0 : Program := .bare "" "" ""
def e0 : Env := launch0.env 0 0 0
theorem w_frames : about1.frames = Frame.invoking theMethod args0 :: below0 := rfl
set_option maxRecDepth 65536 in
theorem w_args : argsFit about1.vm theMethod args0 = true := by decide +kernel
set_option maxRecDepth 65536 in
theorem w_heap : heapFits about1 = true := by decide +kernel
set_option maxRecDepth 65536 in
theorem w_runnable : about1.curStatus? = some .runnable := by decide +kernel
set_option maxRecDepth 65536 in
theorem w_alone : about1.alone = true := by decide +kernel
set_option maxRecDepth 65536 in
theorem w_named : about1.methodNamed? x = some theMethod := by decide +kernel
set_option maxRecDepth 65536 in
theorem w_hears : about1.hears theMethod below0 = true := by decide +kernel
set_option maxRecDepth 65536 in
theorem w_ripe : about1.ripe theMethod args0 below0 = true := by decide +kernel
theorem w_running : about1.status = .running := rfl
set_option maxRecDepth 65536 in
theorem w_room : about1.hasRoom e0.platform room_1 = true :=
  launch0.hasRoom_least _ room_1 (by decide +kernel) (by decide +kernel) (by decide +kernel) (by decide +kernel) (by decide +kernel) (by decide +kernel)
theorem allAtoms_all (ts : List Jvm.Cond) (a : Array Jvm.Value) (st : Jvm.State) : (allAtoms ts).before a st = ts.all (fun c => c.before a st) := by
  induction ts with
  | nil => rfl
  | cons c t ih =>
    show (Jvm.Cond.and c (allAtoms t)).before a st = _
    rw [Jvm.Cond.before_and, ih, List.all_cons]
def words1 : List Jvm.Cond := Jvm.Cond.code x code maxLocals ret :: tables_1
/-- a 'code' word, met by the world's own term for the bytes: nothing is compared byte by byte -/
theorem code_word {y : MethodName} {bytes : ByteArray} {mx : Nat} {rt : Option FieldType} {a : Array Value} {s : State} {m : MethodId} {meth : Method} {c : Code} (h1 : s.methodNamed? y = some m) (h2 : s.vm.method? m = some meth) (h3 : meth.code = some c) (h4 : c.code = bytes)
    (h5 : (c.maxLocals == mx && c.exceptionTable.isEmpty && decide (c.maxStack ≤ mostOperands) && decide (meth.sig.returnType = rt) && !meth.locks && decide (parseMethodDescriptor y.desc = some meth.sig)) = true) : (Jvm.Cond.code y bytes mx rt).before a s = true := by
  simp only [Bool.and_eq_true, beq_iff_eq, Bool.not_eq_true', decide_eq_true_eq] at h5
  obtain ⟨⟨⟨⟨⟨g1, g2⟩, g3⟩, g4⟩, g5⟩, g6⟩ := h5
  simp [Cond.before, Cond.holds, Cond.value, h1, h2, h3, h4, g1, g2, g3, g4, g5, g6]
def isCode : Jvm.Cond → Bool
  | .code _ _ _ _ => true
  | _ => false
theorem all_split {L : List Jvm.Cond} {P : Jvm.Cond → Bool} (h1 : L.all (fun c => isCode c || P c) = true) (h2 : ∀ c ∈ L.filter isCode, P c = true) : L.all P = true := by
  refine List.all_eq_true.mpr fun c hc => ?_
  have h := List.all_eq_true.mp h1 c hc
  rcases Bool.eq_false_or_eq_true (isCode c) with hi | hi
  · exact h2 c (List.mem_filter.mpr ⟨hc, hi⟩)
  · simpa [hi] using h
set_option maxRecDepth 65536 in
theorem w_c0 : (Jvm.Cond.code x code maxLocals ret).before args0 about1 = true := code_word (m := ⟨1, 1⟩) (meth := k1m1) (c := k1c1) (by decide +kernel) rfl rfl rfl (by decide +kernel)
set_option maxRecDepth 65536 in
theorem w_c1 : (Jvm.Cond.code ({ cls := "com/example/offer/offer/model/Role", name := "other", desc := "()Lcom/example/offer/offer/model/Role;" } : Jvm.MethodName) prog_5_method_4_code (1 : Nat) (Option.some (Jvm.ClassFile.FieldType.object "com/example/offer/offer/model/Role"))).before args0 about1 = true := code_word (m := ⟨6, 0⟩) (meth := k6m0) (c := k6c0) (by decide +kernel) rfl rfl rfl (by decide +kernel)
def codes1 : List Jvm.Cond := [Jvm.Cond.code x code maxLocals ret, Jvm.Cond.code ({ cls := "com/example/offer/offer/model/Role", name := "other", desc := "()Lcom/example/offer/offer/model/Role;" } : Jvm.MethodName) prog_5_method_4_code (1 : Nat) (Option.some (Jvm.ClassFile.FieldType.object "com/example/offer/offer/model/Role"))]
set_option maxRecDepth 65536 in
theorem codes_eq : words1.filter isCode = codes1 := rfl
theorem w_codes : ∀ c ∈ words1.filter isCode, c.before args0 about1 = true := by
  rw [codes_eq]
  intro c hc
  simp only [codes1, List.mem_cons, List.not_mem_nil, or_false] at hc
  rcases hc with rfl | rfl
  · exact w_c0
  · exact w_c1
set_option maxRecDepth 65536 in
theorem w_t1 : words1.all (fun c => isCode c || c.before args0 about1) = true := by decide +kernel
theorem w_tables : (allAtoms (Jvm.Cond.code x code maxLocals ret :: tables_1)).before args0 about1 = true := by
  rw [allAtoms_all]
  show words1.all (fun c => c.before args0 about1) = true
  refine all_split ?_ w_codes
  rw [w_t1]
set_option maxRecDepth 65536 in
theorem w_case : (Jvm.Cond.and given_1 narrow_1).before args0 about1 = true := by decide +kernel
theorem w_applies : (headSpec (Jvm.Cond.code x code maxLocals ret :: tables_1) room_1).applies x e0.platform about1 = true :=
  (Spec.applies_iff w_frames).mpr ⟨w_running, w_runnable, w_alone, w_named, w_hears, w_ripe, w_room, w_tables⟩
theorem atStart : AtStart classFile x code maxLocals ret World_1 tables_1 room_1 Calls_1 rest_1 Pre_1 launch0 p0 e0 about1 theMethod args0 below0 :=
  ⟨lists_1, trivial, launch0.admits_env _ _ _, launch0.least_env, fairChoices_fair.cas, fairChoices_fair.clock, w_frames, w_args, w_heap, w_applies, trivial, trivial, w_case⟩
end start1
theorem witness_1 : WitnessClaimed_1 := ⟨start1.p0, start1.e0, start1.about1, start1.theMethod, start1.args0, start1.below0, start1.atStart⟩
end Jvm.Pilot.@@N@@
