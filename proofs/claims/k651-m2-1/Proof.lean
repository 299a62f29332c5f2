import JvmDerived
import JvmDerived.Pilot.@@N@@Statement
import JvmDerived.Pilot.@@N@@Code
set_option linter.unusedVariables false
set_option linter.unusedSimpArgs false
namespace Jvm.RoadKit
open Sem ClassFile Op Lib Jvm.Stand Jvm.Free Jvm.LawKit
section New
variable {p : Program} {l : Launch} {e : Env} {R : Room} {s : State} {m : MethodId} {args : Array Value} {below : List Frame} {meth : Method} {c : Code} {T : State} {locs : List Loc} {cells slots : Nat}
theorem retI (X : Stand p l e R s m args below meth c T locs cells slots) (hx : p.tables.exec = Jvm.exec) {pc : Nat} {Ls : Array Slot} {z : Int32} {rest : List Value} (hret : meth.sig.returnType = some .int) (hd : decode c.code pc = .ok (.ireturn, 1)) {fs : List Frame}
    (hl : ∀ (f : JFrame) (acts : List Action), f.method = m → f.locked = none → f.entered = [] → (doReturn e (T.setTop f) acts (some (.int z))).1 = T.setFrames fs) : Steps p.tables e below (T.setTop (mkF m pc Ls (.int z :: rest))) (T.setFrames fs) := by
  have hm' : T.vm.method? m = some meth := X.method'
  have hn : narrow .int (.int z) = .int z := rfl
  show Steps p.tables e below (T.setTop { method := m, pc := pc, locals := Ls, stack := _ :: rest, locked := none }) _
  jvm_step X.here [X.here.top, hx, hd, hm', hret, hn]
  first | (intro acts; rw [hl _ acts rfl rfl rfl]) | rw [hl _ _ rfl rfl rfl]
  exact Steps.refl _
end New
end Jvm.RoadKit
namespace Jvm.Pilot.@@N@@
open Jvm Jvm.ClassFile Sem Op Lib Jvm.Free Jvm.Stand Jvm.LawKit Jvm.RoadKit Bundle Jvm.Pilot.@@N@@.Jvm.D
def QT (n0 : Nat) (v : Option Value) (h : Heap) (L : List Loc) : Prop := v = some (.int 1) ∧ Fr n0 L
def QP (r : Option Value) (h0 : Heap) (n0 : Nat) (v : Option Value) (h : Heap) (L : List Loc) : Prop := v = r ∧ Fr n0 L ∧ h = h0
theorem own_fld {Z : State} {args : Array Value} {t : Term} {C n d : String} {a : Addr} {i : Int32} (ev : t.eval args Z none [] Z = some (.ref a)) (h : (Cond.eq (Term.field t C n d) (Term.int i)).value args Z none Z [] = some true) : Fld Z Z.heap a C n d (.int i) := by
  have e := fld_at (C := C) (n := n) (dd := d) ev
  refine Fld.start ?_
  obtain ⟨x, y, h1, h2, k1, k2⟩ := cmp_v (Or.inl h)
  have h3 : y = .int i := (Option.some.inj ((Term.int_eval i).symm.trans h2)).symm
  subst h3
  obtain ⟨z, rfl⟩ := k2
  have q : z = i := by simpa [Cond.value, h1, h2] using h
  rw [← e, h1, q]
theorem own_fldn {Z : State} {args : Array Value} {t : Term} {C n d : String} {a : Addr} (ev : t.eval args Z none [] Z = some (.ref a)) (h : (Cond.eq (Term.field t C n d) Term.null).value args Z none Z [] = some true) : Fld Z Z.heap a C n d .null := Fld.start ((fld_at ev).symm.trans (null_v h))
theorem own_sti {Z : State} {args : Array Value} {C n d : String} {i : Int32} (h : (Cond.eq (Term.static C n d) (Term.int i)).value args Z none Z [] = some true) : (Term.static C n d).eval args Z none [] Z = some (.int i) := by
  obtain ⟨x, y, h1, h2, k1, k2⟩ := cmp_v (Or.inl h)
  have h3 : y = .int i := (Option.some.inj ((Term.int_eval i).symm.trans h2)).symm
  subst h3
  obtain ⟨z, rfl⟩ := k2
  have q : z = i := by simpa [Cond.value, h1, h2] using h
  rw [h1, q]
theorem own_sta_keep {Z : State} {h h' : Heap} {C n d : String} {v : Value} {ws : List Addr} (F : Sta Z h C n d v) (K : Keep h h' ws) (q : ∀ x ∈ ws, ∀ c : Cell, h[x]? = some c → c.vm.isStatics = false) : Sta Z h' C n d v := by
  obtain ⟨cf, i, k, f, st, cell, h1, h2, h3, h4, h5, h6, h7⟩ := F
  have ne : st ∉ ws := fun z => by rw [q st z cell h5] at h6; cases h6
  exact ⟨cf, i, k, f, st, cell, h1, h2, h3, h4, K.2.1 st cell h5 ne, h6, h7⟩
theorem own_ns {h : Heap} {x : Addr} {ws : List Addr} (p : ∀ c : Cell, h[x]? = some c → c.vm.isStatics = false) (q : ∀ y ∈ ws, ∀ c : Cell, h[y]? = some c → c.vm.isStatics = false) : ∀ y ∈ x :: ws, ∀ c : Cell, h[y]? = some c → c.vm.isStatics = false := fun y hy => (List.mem_cons.mp hy).elim (fun e => e ▸ p) (q y)
theorem own_notin {a x : Addr} {ws : List Addr} (p : a ≠ x) (q : a ∉ ws) : a ∉ x :: ws := fun h => (List.mem_cons.mp h).elim p q
def OwnAll (Z : State) (h : Heap) (a : Addr) (C : String) : Prop := ∃ cl : Cell, Arr Z h a cl (.object C) ∧ cl.slots.size = 256 ∧ ∀ i, i < 256 → ∃ b, cl.slots[i]? = some (.ref b) ∧ Exa Z h b C
theorem own_all_ext {Z : State} {h h' : Heap} {a : Addr} {C : String} (F : OwnAll Z h a C) (E : Ext h h') : OwnAll Z h' a C := by
  obtain ⟨cl, A, n, H⟩ := F
  exact ⟨cl, A.ext E, n, fun i hi => by obtain ⟨b, q, e⟩ := H i hi; exact ⟨b, q, e.ext E⟩⟩
theorem own_all_wr {Z : State} {h h' : Heap} {a o : Addr} {C : String} {sl : Nat} {v : Value} (F : OwnAll Z h a C) (W : Wr h h' o sl v) (ne : a ≠ o) : OwnAll Z h' a C := by
  obtain ⟨cl, A, n, H⟩ := F
  exact ⟨cl, A.other W ne, n, fun i hi => by obtain ⟨b, q, e⟩ := H i hi; exact ⟨b, q, Exa.wr W e⟩⟩
theorem own_all_keep {Z : State} {h h' : Heap} {a : Addr} {C : String} {ws : List Addr} (F : OwnAll Z h a C) (K : Keep h h' ws) (ne : a ∉ ws) : OwnAll Z h' a C := by
  obtain ⟨cl, A, n, H⟩ := F
  exact ⟨cl, ⟨K.2.1 a cl A.1 ne, A.2⟩, n, fun i hi => by obtain ⟨b, q, e⟩ := H i hi; exact ⟨b, q, e.keep K⟩⟩
theorem own_all_start {Z : State} {args : Array Value} {t : Term} {a : Addr} {C : String} {D : Jvm.Cond} (ev : ∀ idx, t.eval args Z none idx Z = some (.ref a)) (w1 : (Cond.arrayOf t (.object C)).value args Z none Z [] = some true) (w2 : (Cond.eq (.length t) (.int (256 : Int32))).before args Z = true)
    (w3 : (Cond.all t (.and (.exactly (.elem t (.index 0)) C) D)).value args Z none Z [] = some true) : OwnAll Z Z.heap a C := by
  obtain ⟨cl, A⟩ := Arr.start (ev []) w1
  have hat := IntBox.arrayAt_of A.1 A.2.1 A.2.2
  obtain ⟨l1, l2⟩ := IntBox.length_fwd w2 (ev []) A.1 A.2.1 A.2.2
  have l3 : cl.slots.size = 256 := by
    have q := congrArg Int32.toInt l2
    rw [len_toInt l1] at q
    have e : (256 : Int32).toInt = 256 := by decide
    omega
  refine ⟨cl, A, l3, fun i hi => ?_⟩
  have q := Cond.all_elim (ev []) hat w3 i (by rw [l3]; exact hi)
  obtain ⟨q1, -⟩ := and_e q
  obtain ⟨b, c', cell, k, e1, e2, e3, e4, e5, rfl, e7⟩ := Cond.exactly_spec (beq_iff_eq.mpr q1 : (Cond.exactly (.elem t (.index 0)) C).holds args Z none Z [i] = true)
  have ix : (Term.index 0).eval args Z none [i] Z = some (.int i.toInt32) := by simp [Term.eval]
  have u := (elem_in e1 (ev [i]) ix A.1).2
  rw [(IntBox.place_nonneg i hi).2] at u
  exact ⟨b, u, cell, k, e3, e2, e4, e5, e7⟩
def QB (Z : State) (C : String) (h0 : Heap) (n0 : Nat) (v : Option Value) (h : Heap) (L : List Loc) : Prop := ∃ b, v = some (.ref b) ∧ Fr n0 L ∧ Keep h0 h [] ∧ Exa Z h b C
theorem own_weakQ {l : Launch} {y : MethodName} {S : Spec} {P : Array Value → State → Prop} {k1 k2 : Nat} {Q Q' : Option Value → Heap → List Loc → Prop} (hi : ∀ v h L, Q v h L → Q' v h L) (h : MetFree l y S P (fun _ _ _ _ _ => True) (fun _ U o U' => ∃ v L, o = .returned v ∧ Q v U'.heap L ∧ FrameEnd U o U' L k1 k2)) :
    MetFree l y S P (fun _ _ _ _ _ => True) (fun _ U o U' => ∃ v L, o = .returned v ∧ Q' v U'.heap L ∧ FrameEnd U o U' L k1 k2) := by
  intro p e ha hc hk s m args below hf happ hP hK
  obtain ⟨n, o, h1, h2, h3, v, L, h4, h5, h7⟩ := h p e ha hc hk s m args below hf happ hP hK
  exact ⟨n, o, h1, h2, h3, v, L, h4, hi _ _ _ h5, h7⟩
theorem own_root {Z : State} {a0 : Array Value} {O K : String} {n : Nat} (w : (Cond.noSuperclass O).before a0 Z = true) (wk : (Cond.instantiable K n).before a0 Z = true) (hn : O ≠ K) : NS Z O K := by
  obtain ⟨c, k, h1, h2, h3, -, -⟩ := Cond.noSuperclass_spec w
  obtain ⟨t, kt, g1, -⟩ := Cond.instantiable_spec wk
  have ne := ids_ne h1 g1 hn
  refine ⟨c, t, h1, g1, fun fuel => ?_⟩
  cases fuel with
  | zero => rfl
  | succ f => simp [Vm.isSubclassAux, ne, h2, h3]
theorem own_no {Z : State} {a0 : Array Value} {C S K : String} {n : Nat} (w : (Cond.superclass C S).before a0 Z = true) (wk : (Cond.instantiable K n).before a0 Z = true) (nn : NS Z C K) (hn : C ≠ K) : ∃ c t, Z.vm.findClass C = some c ∧ Z.vm.findClass K = some t ∧ Z.vm.assignable c t = false := by
  obtain ⟨c, t, h0, g0, n3⟩ := nn
  obtain ⟨p, k, kp, h1, h2, h3, h4, h5, -, h7⟩ := Cond.superclass_spec h0 w
  obtain ⟨t', k', g1, g2, g3, g4, -⟩ := Cond.instantiable_spec wk
  cases g0.symm.trans g1
  have ne := ids_ne h0 g0 hn
  have g5 : k'.isInterface = false := by simpa using (Bool.or_eq_false_iff.mp g4).1
  refine ⟨c, t, h0, g0, ?_⟩
  show Z.vm.assignableAux (255 + 1) c t = false
  simp [Vm.assignableAux, ne, h2, g2, h5, g3, g5, Vm.isSubclass, n3]
theorem own_iidx (x : Int32) (h1 : ¬ x < (-128 : Int32)) (h2 : ¬ (127 : Int32) < x) : ¬ (x + (128 : Int32)) < 0 ∧ (x + (128 : Int32)).toNatClampNeg < 256 := by
  have q := IntBox.place_ok x h1 h2
  exact ⟨fun z => q.1 (Or.inl z), q.2⟩
theorem own_and3 (x : Int32) : (x &&& (3 : Int32)) = (0 : Int32) ∨ (x &&& (3 : Int32)) = (1 : Int32) ∨ (x &&& (3 : Int32)) = (2 : Int32) ∨ (x &&& (3 : Int32)) = (3 : Int32) := by
  have h := c_and x (3 : Int32) (by decide)
  have e : (3 : Int32).toInt = 3 := by decide
  have e0 : (0 : Int32).toInt = 0 := by decide
  have e1 : (1 : Int32).toInt = 1 := by decide
  have e2 : (2 : Int32).toInt = 2 := by decide
  have e3 : (3 : Int32).toInt = 3 := by decide
  simp only [← Int32.toInt_inj, e0, e1, e2, e3]
  omega
abbrev S_0 (Z : State) (h : Heap) (v : Value) : Prop := Sta Z h "java/lang/Integer$IntegerCache" "high" "I" v
theorem tw_30 {a0 : Array Value} {Z : State} (hw : ∀ d ∈ tables_1, d.before a0 Z = true) : (Jvm.Cond.initialized "java/lang/Integer$IntegerCache").before a0 Z = true := hw _ (List.mem_of_getElem? (i := 30) rfl)
abbrev S_1 (Z : State) (h : Heap) (v : Value) : Prop := Sta Z h "java/lang/Integer$IntegerCache" "cache" "[Ljava/lang/Integer;" v
abbrev E_0 (Z : State) (h : Heap) (a : Addr) : Prop := Exa Z h a "[Ljava/lang/Integer;"
theorem tw_0 {a0 : Array Value} {Z : State} (hw : ∀ d ∈ tables_1, d.before a0 Z = true) : (Jvm.Cond.classLink "hexwright/board/HexEqualsPinLaw" (7 : Nat) "hexwright/board/Hex").before a0 Z = true := hw _ (List.mem_of_getElem? (i := 0) rfl)
theorem tw_1 {a0 : Array Value} {Z : State} (hw : ∀ d ∈ tables_1, d.before a0 Z = true) : (Jvm.Cond.instantiable "hexwright/board/Hex" (2 : Nat)).before a0 Z = true := hw _ (List.mem_of_getElem? (i := 1) rfl)
theorem tw_2 {a0 : Array Value} {Z : State} (hw : ∀ d ∈ tables_1, d.before a0 Z = true) : (Jvm.Cond.initialized "hexwright/board/Hex").before a0 Z = true := hw _ (List.mem_of_getElem? (i := 2) rfl)
abbrev E_1 (Z : State) (h : Heap) (a : Addr) : Prop := Exa Z h a "hexwright/board/Hex"
abbrev F_0 (Z : State) (h : Heap) (a : Addr) (v : Value) : Prop := Fld Z h a "hexwright/board/Hex" "q" "I" v
theorem tw_15 {a0 : Array Value} {Z : State} (hw : ∀ d ∈ tables_1, d.before a0 Z = true) : (Jvm.Cond.laysFinal "hexwright/board/Hex" "hexwright/board/Hex" "q" "I").before a0 Z = true := hw _ (List.mem_of_getElem? (i := 15) rfl)
abbrev F_1 (Z : State) (h : Heap) (a : Addr) (v : Value) : Prop := Fld Z h a "hexwright/board/Hex" "r" "I" v
theorem tw_17 {a0 : Array Value} {Z : State} (hw : ∀ d ∈ tables_1, d.before a0 Z = true) : (Jvm.Cond.laysFinal "hexwright/board/Hex" "hexwright/board/Hex" "r" "I").before a0 Z = true := hw _ (List.mem_of_getElem? (i := 17) rfl)
theorem tw_3 {a0 : Array Value} {Z : State} (hw : ∀ d ∈ tables_1, d.before a0 Z = true) : (Jvm.Cond.methodLink "hexwright/board/HexEqualsPinLaw" (9 : Nat) ({ cls := "hexwright/board/Hex", name := "<init>", desc := "(II)V" } : Jvm.MethodName)).before a0 Z = true := hw _ (List.mem_of_getElem? (i := 3) rfl)
theorem tw_5 {a0 : Array Value} {Z : State} (hw : ∀ d ∈ tables_1, d.before a0 Z = true) : (Jvm.Cond.code ({ cls := "hexwright/board/Hex", name := "<init>", desc := "(II)V" } : Jvm.MethodName) prog_3_method_1_code (3 : Nat) (Option.none : Option Jvm.ClassFile.FieldType)).before a0 Z = true := hw _ (List.mem_of_getElem? (i := 5) rfl)
theorem d1_0 : decode prog_3_method_1_code 0 = .ok (.aload_n 0, 1) := by decide +kernel
theorem d1_1 : decode prog_3_method_1_code 1 = .ok (.invokespecial 1, 3) := by decide +kernel
theorem tw_6 {a0 : Array Value} {Z : State} (hw : ∀ d ∈ tables_1, d.before a0 Z = true) : (Jvm.Cond.methodLink "hexwright/board/Hex" (1 : Nat) ({ cls := "java/lang/Record", name := "<init>", desc := "()V" } : Jvm.MethodName)).before a0 Z = true := hw _ (List.mem_of_getElem? (i := 6) rfl)
theorem tw_10 {a0 : Array Value} {Z : State} (hw : ∀ d ∈ tables_1, d.before a0 Z = true) : (Jvm.Cond.code ({ cls := "java/lang/Record", name := "<init>", desc := "()V" } : Jvm.MethodName) jdk_30_method_1_code (1 : Nat) (Option.none : Option Jvm.ClassFile.FieldType)).before a0 Z = true := hw _ (List.mem_of_getElem? (i := 10) rfl)
theorem d2_0 : decode jdk_30_method_1_code 0 = .ok (.aload_n 0, 1) := by decide +kernel
theorem d2_1 : decode jdk_30_method_1_code 1 = .ok (.invokespecial 1, 3) := by decide +kernel
theorem tw_11 {a0 : Array Value} {Z : State} (hw : ∀ d ∈ tables_1, d.before a0 Z = true) : (Jvm.Cond.methodLink "java/lang/Record" (1 : Nat) ({ cls := "java/lang/Object", name := "<init>", desc := "()V" } : Jvm.MethodName)).before a0 Z = true := hw _ (List.mem_of_getElem? (i := 11) rfl)
theorem tw_13 {a0 : Array Value} {Z : State} (hw : ∀ d ∈ tables_1, d.before a0 Z = true) : (Jvm.Cond.code ({ cls := "java/lang/Object", name := "<init>", desc := "()V" } : Jvm.MethodName) object_method_1_code (1 : Nat) (Option.none : Option Jvm.ClassFile.FieldType)).before a0 Z = true := hw _ (List.mem_of_getElem? (i := 13) rfl)
theorem tw_12 {a0 : Array Value} {Z : State} (hw : ∀ d ∈ tables_1, d.before a0 Z = true) : (Jvm.Cond.instanceMethod ({ cls := "java/lang/Object", name := "<init>", desc := "()V" } : Jvm.MethodName)).before a0 Z = true := hw _ (List.mem_of_getElem? (i := 12) rfl)
theorem d2_4 : decode jdk_30_method_1_code 4 = .ok (.return_, 1) := by decide +kernel
abbrev R_1_0_0_12 : Room := { frames := 1, cells := 0, slots := 0, locals := 12 }
abbrev M_0 : MethodName := ⟨"java/lang/Record", "<init>", "()V"⟩
theorem ef2_R (m : MethodId) (x0 : Addr) : entryFrame m #[(.ref x0)] 1 = mkF m 0 #[.val (.ref x0)] [] := by first | (simp [entryFrame, mkF, argsToLocals, Value.category]; done) | rfl
theorem pn_java_lang_Record : plainName "java/lang/Record" = true := by first | (simp [plainName, overriddenIn]; done) | decide +kernel
set_option maxRecDepth 65536 in
set_option maxHeartbeats 40000000 in
theorem rm2_2 (l : Launch) (Z : State) (a0 : Array Value) (hw : ∀ d ∈ tables_1, d.before a0 Z = true) (ws : List Jvm.Cond) (c0_a : Addr) (h0 : Heap) (n0 : Nat) (Z0 : n0 ≤ h0.size) :
    MetFree l M_0 (head1 (Jvm.Cond.code M_0 jdk_30_method_1_code 1 none :: ws) R_1_0_0_12) (fun a U => a = #[(.ref c0_a)] ∧ Z.Warmed39 U.vm ∧ U.heap = h0) (fun _ _ _ _ _ => True) (fun _ U o U' => ∃ v L, o = .returned v ∧ QP none h0 n0 v U'.heap L ∧ FrameEnd U o U' L R_1_0_0_12.cells R_1_0_0_12.slots) := by
  refine MetFree.of_bodySF (plainFor_of_name pn_java_lang_Record) hisR ?_
  intro p e s m args below meth c s₁ Bd hml0 hP hK
  obtain ⟨rfl, hZ, hh⟩ := hP
  have hx := Bd.exec
  have hby := Bd.bytes
  have hml : c.maxLocals = 1 := hml0
  have hown : s.vm.findClass "java/lang/Record" = some m.cls := findClass_of_methodNamed Bd.named
  have hnm := (name_of_methodNamed Bd.named Bd.method).1
  have X0 : Stand p l e R_1_0_0_12 s m #[(.ref c0_a)] below meth c s₁ [] 0 0 := Stand.of_body Bd
  have e0 : s₁.heap = h0 := by rw [← hh, Bd.state]; rfl
  have N0 := Fr.nil n0
  obtain ⟨T1, X1, e1, st1⟩ := initO X0 hx hZ hown (tw_11 hw) (tw_12 hw) (tw_13 hw) e0 (g := (mkF m 1 #[.val (.ref c0_a)] [(.ref c0_a)])) rfl (by rw [hml]; rfl) rfl (hb hby d2_1) (by decide) (W := 0) (by show 2 * 0 + _ ≤ _; exact Nat.le_of_eq rfl) (by decide)
  obtain ⟨fs, hr, hrun, hended, hW, hsame⟩ := X1.leave (v := none) (fun _ => rfl)
  refine ⟨_, _, castTop (ef2_R m c0_a) ?_, hrun, hended, _, _, rfl, ?_, ⟨_, rfl⟩, hW, hsame.mono (by decide) (by decide)⟩
  · show Steps p.tables e below (s₁.setTop (mkF m 0 #[.val (.ref c0_a)] [])) _
    refine XS.aloadN X0.here hx rfl (hb hby d2_0) rfl rfl ?_
    show Steps p.tables e below (s₁.setTop (mkF m 1 #[.val (.ref c0_a)] [(.ref c0_a)])) _
    refine st1 _ ?_
    show Steps p.tables e below (T1.setTop (mkF m 4 #[.val (.ref c0_a)] [])) _
    exact X1.returnOut hx Bd.returns (hb hby d2_4) hr
  · show QP none h0 n0 _ T1.heap _
    rw [e1]
    exact ⟨rfl, N0, rfl⟩
theorem tw_9 {a0 : Array Value} {Z : State} (hw : ∀ d ∈ tables_1, d.before a0 Z = true) : (Jvm.Cond.initialized "java/lang/Record").before a0 Z = true := hw _ (List.mem_of_getElem? (i := 9) rfl)
theorem pd_0 : parseMethodDescriptor "()V" = some ⟨[], none⟩ := by decide +kernel
theorem tw_7 {a0 : Array Value} {Z : State} (hw : ∀ d ∈ tables_1, d.before a0 Z = true) : (Jvm.Cond.instanceMethod ({ cls := "java/lang/Record", name := "<init>", desc := "()V" } : Jvm.MethodName)).before a0 Z = true := hw _ (List.mem_of_getElem? (i := 7) rfl)
theorem d1_4 : decode prog_3_method_1_code 4 = .ok (.aload_n 0, 1) := by decide +kernel
theorem d1_5 : decode prog_3_method_1_code 5 = .ok (.iload_n 1, 1) := by decide +kernel
theorem d1_6 : decode prog_3_method_1_code 6 = .ok (.putfield 7, 3) := by decide +kernel
theorem tw_14 {a0 : Array Value} {Z : State} (hw : ∀ d ∈ tables_1, d.before a0 Z = true) : (Jvm.Cond.fieldLink "hexwright/board/Hex" (7 : Nat) "hexwright/board/Hex" "q" "I").before a0 Z = true := hw _ (List.mem_of_getElem? (i := 14) rfl)
theorem d1_9 : decode prog_3_method_1_code 9 = .ok (.aload_n 0, 1) := by decide +kernel
theorem d1_10 : decode prog_3_method_1_code 10 = .ok (.iload_n 2, 1) := by decide +kernel
theorem d1_11 : decode prog_3_method_1_code 11 = .ok (.putfield 13, 3) := by decide +kernel
theorem tw_16 {a0 : Array Value} {Z : State} (hw : ∀ d ∈ tables_1, d.before a0 Z = true) : (Jvm.Cond.fieldLink "hexwright/board/Hex" (13 : Nat) "hexwright/board/Hex" "r" "I").before a0 Z = true := hw _ (List.mem_of_getElem? (i := 16) rfl)
theorem d1_14 : decode prog_3_method_1_code 14 = .ok (.return_, 1) := by decide +kernel
abbrev R_2_0_0_24 : Room := { frames := 2, cells := 0, slots := 0, locals := 24 }
abbrev M_1 : MethodName := ⟨"hexwright/board/Hex", "<init>", "(II)V"⟩
theorem ef1_RII (m : MethodId) (x0 : Addr) (x1 : Int32) (x2 : Int32) : entryFrame m #[(.ref x0), (.int x1), (.int x2)] 3 = mkF m 0 #[.val (.ref x0), .val (.int x1), .val (.int x2)] [] := by first | (simp [entryFrame, mkF, argsToLocals, Value.category]; done) | rfl
def Q1_4 (Z : State) (c0_a : Addr) (p0 : Int32) (p1 : Int32) (h0 : Heap) (n0 : Nat) (v : Option Value) (h : Heap) (L : List Loc) : Prop := v = none ∧ Fr n0 L ∧ Keep h0 h [c0_a] ∧ F_0 Z h c0_a (.int p0) ∧ F_1 Z h c0_a (.int p1)
theorem pn_hexwright_board_Hex : plainName "hexwright/board/Hex" = true := by first | (simp [plainName, overriddenIn]; done) | decide +kernel
set_option maxRecDepth 65536 in
set_option maxHeartbeats 40000000 in
theorem rm1_3 (l : Launch) (Z : State) (a0 : Array Value) (hw : ∀ d ∈ tables_1, d.before a0 Z = true) (ws : List Jvm.Cond) (c0_a : Addr) (p0 : Int32) (p1 : Int32) (h0 : Heap) (n0 : Nat) (Z0 : n0 ≤ h0.size) (f1 : F_0 Z h0 c0_a (.int 0)) (f2 : E_1 Z h0 c0_a) (f3 : n0 ≤ c0_a) (f4 : F_1 Z h0 c0_a (.int 0)) :
    MetFree l M_1 (head1 (Jvm.Cond.code M_1 prog_3_method_1_code 3 none :: ws) R_2_0_0_24) (fun a U => a = #[(.ref c0_a), (.int p0), (.int p1)] ∧ Z.Warmed39 U.vm ∧ U.heap = h0) (fun _ _ _ _ _ => True) (fun _ U o U' => ∃ v L, o = .returned v ∧ Q1_4 Z c0_a p0 p1 h0 n0 v U'.heap L ∧ FrameEnd U o U' L R_2_0_0_24.cells R_2_0_0_24.slots) := by
  refine MetFree.of_bodySF (plainFor_of_name pn_hexwright_board_Hex) hisR ?_
  intro p e s m args below meth c s₁ Bd hml0 hP hK
  obtain ⟨rfl, hZ, hh⟩ := hP
  have hx := Bd.exec
  have hby := Bd.bytes
  have hml : c.maxLocals = 3 := hml0
  have hown : s.vm.findClass "hexwright/board/Hex" = some m.cls := findClass_of_methodNamed Bd.named
  have hnm := (name_of_methodNamed Bd.named Bd.method).1
  have X0 : Stand p l e R_2_0_0_24 s m #[(.ref c0_a), (.int p0), (.int p1)] below meth c s₁ [] 0 0 := Stand.of_body Bd
  have e0 : s₁.heap = h0 := by rw [← hh, Bd.state]; rfl
  have N0 := Fr.nil n0
  -- pc 1: java/lang/Record.<init>
  obtain ⟨_, _, ⟨T1, L1, k1, n1⟩, -, X1, ⟨Lc1, hQ1, l1, y1, z1⟩, st1⟩ := X0.specialBack hx (y := M_0) rfl hown (mvT hZ (tw_6 hw)) (mvT hZ (tw_7 hw)) (mvT hZ (tw_10 hw)) (by decide) (backOf (W := 0) (rm2_2 l Z a0 hw [] c0_a h0 n0 Z0 ) hZ (tw_10 hw) (tw_9 hw) (by decide) (by decide)) (g := (mkF m 1 #[.val (.ref c0_a), .val (.int p0), .val (.int p1)] [(.ref c0_a)])) rfl (by rw [hml]; rfl) (Steps.refl _) (a := c0_a) (argsL := []) (rest := []) (lenOf pd_0 rfl) rfl (by show 2 * 0 + _ ≤ _; exact Nat.le_of_eq rfl) (hb hby d1_1) (fun _ _ => ⟨rfl, e0, (by decide : 0 + 0 ≤ _), (by decide : 0 + 0 ≤ _)⟩)
  dsimp only [Pt.U, Pt.locs, Pt.cells, Pt.slots] at X1 l1 y1 z1 st1 hQ1
  subst l1 y1 z1
  obtain ⟨rfl, Nq1, e1⟩ := hQ1
  have N1 := Fr.app N0 Nq1
  obtain ⟨T2, h2, X2, e2, W2, st2⟩ := putF X1 hx hZ hown (host := "") (Or.inl (tw_14 hw)) Via.refl e1 f1 f2 (Or.inr ⟨(tw_15 hw), rfl, hnm⟩) (tw_1 hw) (ty := .int) (by decide) rfl rfl (g := (mkF m 6 #[.val (.ref c0_a), .val (.int p0), .val (.int p1)] [(.int p0), (.ref c0_a)])) rfl rfl (hb hby d1_6)
  have Fw2 : F_0 Z h2 c0_a (.int p0) := Fld.same W2 f1
  have KK2 : Keep h0 h2 [c0_a] := (Keep.refl h0 [c0_a]).wr W2 (Or.inl (List.mem_of_getElem? (i := 0) rfl))
  have N2 := Fr.snoc X2 N1 f3
  have u3 : F_1 Z h2 c0_a (.int 0) := Fld.other W2 f4 (Or.inr (slot_ne (a0 := a0) (Or.inr (tw_17 hw)) (Or.inr (tw_15 hw)) (by decide) (t := .int) (t' := .int) (by decide) (by decide)))
  have u4 : E_1 Z h2 c0_a := Exa.wr W2 f2
  obtain ⟨T5, h5, X5, e5, W5, st5⟩ := putF X2 hx hZ hown (host := "") (Or.inl (tw_16 hw)) Via.refl e2 u3 u4 (Or.inr ⟨(tw_17 hw), rfl, hnm⟩) (tw_1 hw) (ty := .int) (by decide) rfl rfl (g := (mkF m 11 #[.val (.ref c0_a), .val (.int p0), .val (.int p1)] [(.int p1), (.ref c0_a)])) rfl rfl (hb hby d1_11)
  have Fw5 : F_1 Z h5 c0_a (.int p1) := Fld.same W5 u3
  have KK5 : Keep h0 h5 [c0_a] := KK2.wr W5 (Or.inl (List.mem_of_getElem? (i := 0) rfl))
  have N5 := Fr.snoc X5 N2 f3
  have u6 : F_0 Z h5 c0_a (.int p0) := Fld.other W5 Fw2 (Or.inr (slot_ne (a0 := a0) (Or.inr (tw_15 hw)) (Or.inr (tw_17 hw)) (by decide) (t := .int) (t' := .int) (by decide) (by decide)))
  obtain ⟨fs, hr, hrun, hended, hW, hsame⟩ := X5.leave (v := none) (fun _ => rfl)
  refine ⟨_, _, castTop (ef1_RII m c0_a p0 p1) ?_, hrun, hended, _, _, rfl, ?_, ⟨_, rfl⟩, hW, hsame.mono (by decide) (by decide)⟩
  · show Steps p.tables e below (s₁.setTop (mkF m 0 #[.val (.ref c0_a), .val (.int p0), .val (.int p1)] [])) _
    refine XS.aloadN X0.here hx rfl (hb hby d1_0) rfl rfl ?_
    show Steps p.tables e below (s₁.setTop (mkF m 1 #[.val (.ref c0_a), .val (.int p0), .val (.int p1)] [(.ref c0_a)])) _
    refine st1.trans ?_
    refine XS.aloadN X1.here hx rfl (hb hby d1_4) rfl rfl ?_
    refine XS.iloadN X1.here hx rfl (hb hby d1_5) rfl ?_
    show Steps p.tables e below (T1.setTop (mkF m 6 #[.val (.ref c0_a), .val (.int p0), .val (.int p1)] [(.int p0), (.ref c0_a)])) _
    refine st2 _ ?_
    refine XS.aloadN X2.here hx rfl (hb hby d1_9) rfl rfl ?_
    refine XS.iloadN X2.here hx rfl (hb hby d1_10) rfl ?_
    show Steps p.tables e below (T2.setTop (mkF m 11 #[.val (.ref c0_a), .val (.int p0), .val (.int p1)] [(.int p1), (.ref c0_a)])) _
    refine st5 _ ?_
    show Steps p.tables e below (T5.setTop (mkF m 14 #[.val (.ref c0_a), .val (.int p0), .val (.int p1)] [])) _
    exact X5.returnOut hx Bd.returns (hb hby d1_14) hr
  · show Q1_4 Z c0_a p0 p1 h0 n0 _ T5.heap _
    rw [e5]
    exact ⟨rfl, N5, KK5, u6, Fw5⟩
theorem pd_1 : parseMethodDescriptor "(II)V" = some ⟨[.int, .int], none⟩ := by decide +kernel
theorem tw_4 {a0 : Array Value} {Z : State} (hw : ∀ d ∈ tables_1, d.before a0 Z = true) : (Jvm.Cond.instanceMethod ({ cls := "hexwright/board/Hex", name := "<init>", desc := "(II)V" } : Jvm.MethodName)).before a0 Z = true := hw _ (List.mem_of_getElem? (i := 4) rfl)
def Q1_7 (Z : State) (c0_a : Addr) (p2 : Int32) (p3 : Int32) (h0 : Heap) (n0 : Nat) (v : Option Value) (h : Heap) (L : List Loc) : Prop := v = none ∧ Fr n0 L ∧ Keep h0 h [c0_a] ∧ F_0 Z h c0_a (.int p2) ∧ F_1 Z h c0_a (.int p3)
set_option maxRecDepth 65536 in
set_option maxHeartbeats 40000000 in
theorem rm1_6 (l : Launch) (Z : State) (a0 : Array Value) (hw : ∀ d ∈ tables_1, d.before a0 Z = true) (ws : List Jvm.Cond) (c0_a : Addr) (p2 : Int32) (p3 : Int32) (h0 : Heap) (n0 : Nat) (Z0 : n0 ≤ h0.size) (f1 : F_0 Z h0 c0_a (.int 0)) (f2 : E_1 Z h0 c0_a) (f3 : n0 ≤ c0_a) (f4 : F_1 Z h0 c0_a (.int 0)) :
    MetFree l M_1 (head1 (Jvm.Cond.code M_1 prog_3_method_1_code 3 none :: ws) R_2_0_0_24) (fun a U => a = #[(.ref c0_a), (.int p2), (.int p3)] ∧ Z.Warmed39 U.vm ∧ U.heap = h0) (fun _ _ _ _ _ => True) (fun _ U o U' => ∃ v L, o = .returned v ∧ Q1_7 Z c0_a p2 p3 h0 n0 v U'.heap L ∧ FrameEnd U o U' L R_2_0_0_24.cells R_2_0_0_24.slots) := by
  refine MetFree.of_bodySF (plainFor_of_name pn_hexwright_board_Hex) hisR ?_
  intro p e s m args below meth c s₁ Bd hml0 hP hK
  obtain ⟨rfl, hZ, hh⟩ := hP
  have hx := Bd.exec
  have hby := Bd.bytes
  have hml : c.maxLocals = 3 := hml0
  have hown : s.vm.findClass "hexwright/board/Hex" = some m.cls := findClass_of_methodNamed Bd.named
  have hnm := (name_of_methodNamed Bd.named Bd.method).1
  have X0 : Stand p l e R_2_0_0_24 s m #[(.ref c0_a), (.int p2), (.int p3)] below meth c s₁ [] 0 0 := Stand.of_body Bd
  have e0 : s₁.heap = h0 := by rw [← hh, Bd.state]; rfl
  have N0 := Fr.nil n0
  -- pc 1: java/lang/Record.<init>
  obtain ⟨_, _, ⟨T1, L1, k1, n1⟩, -, X1, ⟨Lc1, hQ1, l1, y1, z1⟩, st1⟩ := X0.specialBack hx (y := M_0) rfl hown (mvT hZ (tw_6 hw)) (mvT hZ (tw_7 hw)) (mvT hZ (tw_10 hw)) (by decide) (backOf (W := 0) (rm2_2 l Z a0 hw [] c0_a h0 n0 Z0 ) hZ (tw_10 hw) (tw_9 hw) (by decide) (by decide)) (g := (mkF m 1 #[.val (.ref c0_a), .val (.int p2), .val (.int p3)] [(.ref c0_a)])) rfl (by rw [hml]; rfl) (Steps.refl _) (a := c0_a) (argsL := []) (rest := []) (lenOf pd_0 rfl) rfl (by show 2 * 0 + _ ≤ _; exact Nat.le_of_eq rfl) (hb hby d1_1) (fun _ _ => ⟨rfl, e0, (by decide : 0 + 0 ≤ _), (by decide : 0 + 0 ≤ _)⟩)
  dsimp only [Pt.U, Pt.locs, Pt.cells, Pt.slots] at X1 l1 y1 z1 st1 hQ1
  subst l1 y1 z1
  obtain ⟨rfl, Nq1, e1⟩ := hQ1
  have N1 := Fr.app N0 Nq1
  obtain ⟨T2, h2, X2, e2, W2, st2⟩ := putF X1 hx hZ hown (host := "") (Or.inl (tw_14 hw)) Via.refl e1 f1 f2 (Or.inr ⟨(tw_15 hw), rfl, hnm⟩) (tw_1 hw) (ty := .int) (by decide) rfl rfl (g := (mkF m 6 #[.val (.ref c0_a), .val (.int p2), .val (.int p3)] [(.int p2), (.ref c0_a)])) rfl rfl (hb hby d1_6)
  have Fw2 : F_0 Z h2 c0_a (.int p2) := Fld.same W2 f1
  have KK2 : Keep h0 h2 [c0_a] := (Keep.refl h0 [c0_a]).wr W2 (Or.inl (List.mem_of_getElem? (i := 0) rfl))
  have N2 := Fr.snoc X2 N1 f3
  have u3 : F_1 Z h2 c0_a (.int 0) := Fld.other W2 f4 (Or.inr (slot_ne (a0 := a0) (Or.inr (tw_17 hw)) (Or.inr (tw_15 hw)) (by decide) (t := .int) (t' := .int) (by decide) (by decide)))
  have u4 : E_1 Z h2 c0_a := Exa.wr W2 f2
  obtain ⟨T5, h5, X5, e5, W5, st5⟩ := putF X2 hx hZ hown (host := "") (Or.inl (tw_16 hw)) Via.refl e2 u3 u4 (Or.inr ⟨(tw_17 hw), rfl, hnm⟩) (tw_1 hw) (ty := .int) (by decide) rfl rfl (g := (mkF m 11 #[.val (.ref c0_a), .val (.int p2), .val (.int p3)] [(.int p3), (.ref c0_a)])) rfl rfl (hb hby d1_11)
  have Fw5 : F_1 Z h5 c0_a (.int p3) := Fld.same W5 u3
  have KK5 : Keep h0 h5 [c0_a] := KK2.wr W5 (Or.inl (List.mem_of_getElem? (i := 0) rfl))
  have N5 := Fr.snoc X5 N2 f3
  have u6 : F_0 Z h5 c0_a (.int p2) := Fld.other W5 Fw2 (Or.inr (slot_ne (a0 := a0) (Or.inr (tw_15 hw)) (Or.inr (tw_17 hw)) (by decide) (t := .int) (t' := .int) (by decide) (by decide)))
  obtain ⟨fs, hr, hrun, hended, hW, hsame⟩ := X5.leave (v := none) (fun _ => rfl)
  refine ⟨_, _, castTop (ef1_RII m c0_a p2 p3) ?_, hrun, hended, _, _, rfl, ?_, ⟨_, rfl⟩, hW, hsame.mono (by decide) (by decide)⟩
  · show Steps p.tables e below (s₁.setTop (mkF m 0 #[.val (.ref c0_a), .val (.int p2), .val (.int p3)] [])) _
    refine XS.aloadN X0.here hx rfl (hb hby d1_0) rfl rfl ?_
    show Steps p.tables e below (s₁.setTop (mkF m 1 #[.val (.ref c0_a), .val (.int p2), .val (.int p3)] [(.ref c0_a)])) _
    refine st1.trans ?_
    refine XS.aloadN X1.here hx rfl (hb hby d1_4) rfl rfl ?_
    refine XS.iloadN X1.here hx rfl (hb hby d1_5) rfl ?_
    show Steps p.tables e below (T1.setTop (mkF m 6 #[.val (.ref c0_a), .val (.int p2), .val (.int p3)] [(.int p2), (.ref c0_a)])) _
    refine st2 _ ?_
    refine XS.aloadN X2.here hx rfl (hb hby d1_9) rfl rfl ?_
    refine XS.iloadN X2.here hx rfl (hb hby d1_10) rfl ?_
    show Steps p.tables e below (T2.setTop (mkF m 11 #[.val (.ref c0_a), .val (.int p2), .val (.int p3)] [(.int p3), (.ref c0_a)])) _
    refine st5 _ ?_
    show Steps p.tables e below (T5.setTop (mkF m 14 #[.val (.ref c0_a), .val (.int p2), .val (.int p3)] [])) _
    exact X5.returnOut hx Bd.returns (hb hby d1_14) hr
  · show Q1_7 Z c0_a p2 p3 h0 n0 _ T5.heap _
    rw [e5]
    exact ⟨rfl, N5, KK5, u6, Fw5⟩
theorem tw_18 {a0 : Array Value} {Z : State} (hw : ∀ d ∈ tables_1, d.before a0 Z = true) : (Jvm.Cond.methodLink "hexwright/board/HexEqualsPinLaw" (12 : Nat) ({ cls := "hexwright/board/Hex", name := "equals", desc := "(Ljava/lang/Object;)Z" } : Jvm.MethodName)).before a0 Z = true := hw _ (List.mem_of_getElem? (i := 18) rfl)
theorem tw_22 {a0 : Array Value} {Z : State} (hw : ∀ d ∈ tables_1, d.before a0 Z = true) : (Jvm.Cond.code ({ cls := "hexwright/board/Hex", name := "equals", desc := "(Ljava/lang/Object;)Z" } : Jvm.MethodName) prog_3_method_4_code (3 : Nat) (Option.some Jvm.ClassFile.FieldType.boolean)).before a0 Z = true := hw _ (List.mem_of_getElem? (i := 22) rfl)
theorem d4_0 : decode prog_3_method_4_code 0 = .ok (.aload_n 1, 1) := by decide +kernel
theorem d4_1 : decode prog_3_method_4_code 1 = .ok (.instanceof 8, 3) := by decide +kernel
theorem tw_23 {a0 : Array Value} {Z : State} (hw : ∀ d ∈ tables_1, d.before a0 Z = true) : (Jvm.Cond.classLink "hexwright/board/Hex" (8 : Nat) "hexwright/board/Hex").before a0 Z = true := hw _ (List.mem_of_getElem? (i := 23) rfl)
theorem d4_4 : decode prog_3_method_4_code 4 = .ok (.ifCond .eq 34, 3) := by decide +kernel
theorem d4_7 : decode prog_3_method_4_code 7 = .ok (.aload_n 1, 1) := by decide +kernel
theorem d4_8 : decode prog_3_method_4_code 8 = .ok (.checkcast 8, 3) := by decide +kernel
theorem d4_11 : decode prog_3_method_4_code 11 = .ok (.astore_n 2, 1) := by decide +kernel
theorem d4_12 : decode prog_3_method_4_code 12 = .ok (.aload_n 2, 1) := by decide +kernel
theorem d4_13 : decode prog_3_method_4_code 13 = .ok (.getfield 7, 3) := by decide +kernel
theorem d4_16 : decode prog_3_method_4_code 16 = .ok (.aload_n 0, 1) := by decide +kernel
theorem d4_17 : decode prog_3_method_4_code 17 = .ok (.getfield 7, 3) := by decide +kernel
theorem d4_20 : decode prog_3_method_4_code 20 = .ok (.if_icmp .ne 18, 3) := by decide +kernel
theorem d4_23 : decode prog_3_method_4_code 23 = .ok (.aload_n 2, 1) := by decide +kernel
theorem d4_24 : decode prog_3_method_4_code 24 = .ok (.getfield 13, 3) := by decide +kernel
theorem d4_27 : decode prog_3_method_4_code 27 = .ok (.aload_n 0, 1) := by decide +kernel
theorem d4_28 : decode prog_3_method_4_code 28 = .ok (.getfield 13, 3) := by decide +kernel
theorem d4_31 : decode prog_3_method_4_code 31 = .ok (.if_icmp .ne 7, 3) := by decide +kernel
theorem d4_34 : decode prog_3_method_4_code 34 = .ok (.iconst 1, 1) := by decide +kernel
theorem d4_35 : decode prog_3_method_4_code 35 = .ok (.goto 4, 3) := by decide +kernel
theorem d4_39 : decode prog_3_method_4_code 39 = .ok (.ireturn, 1) := by decide +kernel
abbrev R_0_0_0_0 : Room := { frames := 0, cells := 0, slots := 0, locals := 0 }
abbrev M_2 : MethodName := ⟨"hexwright/board/Hex", "equals", "(Ljava/lang/Object;)Z"⟩
theorem ef4_RR (m : MethodId) (x0 : Addr) (x1 : Addr) : entryFrame m #[(.ref x0), (.ref x1)] 3 = mkF m 0 #[.val (.ref x0), .val (.ref x1), .unset] [] := by first | (simp [entryFrame, mkF, argsToLocals, Value.category]; done) | rfl
set_option maxRecDepth 65536 in
set_option maxHeartbeats 40000000 in
theorem rm4_8 (l : Launch) (Z : State) (a0 : Array Value) (hw : ∀ d ∈ tables_1, d.before a0 Z = true) (ws : List Jvm.Cond) (c0_a : Addr) (c1_a : Addr) (p2 : Int32) (p0 : Int32) (p3 : Int32) (p1 : Int32) (h0 : Heap) (n0 : Nat) (Z0 : n0 ≤ h0.size) (f1 : E_1 Z h0 c1_a) (f2 : F_0 Z h0 c1_a (.int p2)) (f3 : F_0 Z h0 c0_a (.int p0)) (f4 : p2 = p0) (f5 : F_1 Z h0 c1_a (.int p3)) (f6 : F_1 Z h0 c0_a (.int p1)) (f7 : p3 = p1) :
    MetFree l M_2 (head1 (Jvm.Cond.code M_2 prog_3_method_4_code 3 (some .boolean) :: ws) R_0_0_0_0) (fun a U => a = #[(.ref c0_a), (.ref c1_a)] ∧ Z.Warmed39 U.vm ∧ U.heap = h0) (fun _ _ _ _ _ => True) (fun _ U o U' => ∃ v L, o = .returned v ∧ QP (some (.int 1)) h0 n0 v U'.heap L ∧ FrameEnd U o U' L R_0_0_0_0.cells R_0_0_0_0.slots) := by
  refine MetFree.of_bodySF (plainFor_of_name pn_hexwright_board_Hex) hisR ?_
  intro p e s m args below meth c s₁ Bd hml0 hP hK
  obtain ⟨rfl, hZ, hh⟩ := hP
  have hx := Bd.exec
  have hby := Bd.bytes
  have hml : c.maxLocals = 3 := hml0
  have hown : s.vm.findClass "hexwright/board/Hex" = some m.cls := findClass_of_methodNamed Bd.named
  have hnm := (name_of_methodNamed Bd.named Bd.method).1
  have X0 : Stand p l e R_0_0_0_0 s m #[(.ref c0_a), (.ref c1_a)] below meth c s₁ [] 0 0 := Stand.of_body Bd
  have e0 : s₁.heap = h0 := by rw [← hh, Bd.state]; rfl
  have N0 := Fr.nil n0
  obtain ⟨T1, X1, e1, st1⟩ := instY X0 hx hZ hown (tw_23 hw) e0 (Ins.self f1) (g := (mkF m 1 #[.val (.ref c0_a), .val (.ref c1_a), .unset] [(.ref c1_a)])) rfl rfl (hb hby d4_1)
  obtain ⟨T2, X2, e2, st2⟩ := castY X1 hx hZ hown (tw_23 hw) e1 (Ins.self f1) (g := (mkF m 8 #[.val (.ref c0_a), .val (.ref c1_a), .unset] [(.ref c1_a)])) rfl rfl (hb hby d4_8)
  obtain ⟨T3, X3, e3, st3⟩ := getF X2 hx hZ hown (host := "") (Or.inl (tw_14 hw)) Via.refl e2 f2 (g := (mkF m 13 #[.val (.ref c0_a), .val (.ref c1_a), .val (.ref c1_a)] [(.ref c1_a)])) rfl rfl (hb hby d4_13)
  obtain ⟨T4, X4, e4, st4⟩ := getF X3 hx hZ hown (host := "") (Or.inl (tw_14 hw)) Via.refl e3 f3 (g := (mkF m 17 #[.val (.ref c0_a), .val (.ref c1_a), .val (.ref c1_a)] [(.ref c0_a), (.int p2)])) rfl rfl (hb hby d4_17)
  obtain ⟨T5, X5, e5, st5⟩ := getF X4 hx hZ hown (host := "") (Or.inl (tw_16 hw)) Via.refl e4 f5 (g := (mkF m 24 #[.val (.ref c0_a), .val (.ref c1_a), .val (.ref c1_a)] [(.ref c1_a)])) rfl rfl (hb hby d4_24)
  obtain ⟨T6, X6, e6, st6⟩ := getF X5 hx hZ hown (host := "") (Or.inl (tw_16 hw)) Via.refl e5 f6 (g := (mkF m 28 #[.val (.ref c0_a), .val (.ref c1_a), .val (.ref c1_a)] [(.ref c0_a), (.int p3)])) rfl rfl (hb hby d4_28)
  obtain ⟨fs, hr, hrun, hended, hW, hsame⟩ := X6.leave (v := (some (.int 1))) (fun h => by rw [Bd.returns] at h; cases h)
  refine ⟨_, _, castTop (ef4_RR m c0_a c1_a) ?_, hrun, hended, _, _, rfl, ?_, ⟨_, rfl⟩, hW, hsame.mono (by decide) (by decide)⟩
  · show Steps p.tables e below (s₁.setTop (mkF m 0 #[.val (.ref c0_a), .val (.ref c1_a), .unset] [])) _
    refine XS.aloadN X0.here hx rfl (hb hby d4_0) rfl rfl ?_
    show Steps p.tables e below (s₁.setTop (mkF m 1 #[.val (.ref c0_a), .val (.ref c1_a), .unset] [(.ref c1_a)])) _
    refine st1 _ ?_
    refine XS.ifNo X1.here hx rfl (hb hby d4_4) rfl (by decide) ?_
    refine XS.aloadN X1.here hx rfl (hb hby d4_7) rfl rfl ?_
    show Steps p.tables e below (T1.setTop (mkF m 8 #[.val (.ref c0_a), .val (.ref c1_a), .unset] [(.ref c1_a)])) _
    refine st2 _ ?_
    refine XS.astoreN X2.here hx rfl (hb hby d4_11) rfl rfl (l' := #[.val (.ref c0_a), .val (.ref c1_a), .val (.ref c1_a)]) rfl ?_
    refine XS.aloadN X2.here hx rfl (hb hby d4_12) rfl rfl ?_
    show Steps p.tables e below (T2.setTop (mkF m 13 #[.val (.ref c0_a), .val (.ref c1_a), .val (.ref c1_a)] [(.ref c1_a)])) _
    refine st3 _ ?_
    refine XS.aloadN X3.here hx rfl (hb hby d4_16) rfl rfl ?_
    show Steps p.tables e below (T3.setTop (mkF m 17 #[.val (.ref c0_a), .val (.ref c1_a), .val (.ref c1_a)] [(.ref c0_a), (.int p2)])) _
    refine st4 _ ?_
    refine XS.icmpNo X4.here hx rfl (hb hby d4_20) rfl (teq (f4 : p2 = p0)).2 ?_
    refine XS.aloadN X4.here hx rfl (hb hby d4_23) rfl rfl ?_
    show Steps p.tables e below (T4.setTop (mkF m 24 #[.val (.ref c0_a), .val (.ref c1_a), .val (.ref c1_a)] [(.ref c1_a)])) _
    refine st5 _ ?_
    refine XS.aloadN X5.here hx rfl (hb hby d4_27) rfl rfl ?_
    show Steps p.tables e below (T5.setTop (mkF m 28 #[.val (.ref c0_a), .val (.ref c1_a), .val (.ref c1_a)] [(.ref c0_a), (.int p3)])) _
    refine st6 _ ?_
    refine XS.icmpNo X6.here hx rfl (hb hby d4_31) rfl (teq (f7 : p3 = p1)).2 ?_
    refine XS.iconst X6.here hx rfl (hb hby d4_34) ?_
    refine XS.goto X6.here hx rfl (pc0 := 35) (pc' := 39) rfl (hb hby d4_35) (by decide) (by decide) ?_
    show Steps p.tables e below (T6.setTop (mkF m 39 #[.val (.ref c0_a), .val (.ref c1_a), .val (.ref c1_a)] [(.int 1)])) _
    exact retN X6 hx (t := .boolean) Bd.returns (by simp) (hb hby d4_39) hr
  · show QP (some (.int 1)) h0 n0 _ T6.heap _
    rw [e6]
    exact ⟨rfl, N0, rfl⟩
theorem pd_2 : parseMethodDescriptor "(Ljava/lang/Object;)Z" = some ⟨[(.object "java/lang/Object")], some .boolean⟩ := by decide +kernel
theorem tw_21 {a0 : Array Value} {Z : State} (hw : ∀ d ∈ tables_1, d.before a0 Z = true) : (Jvm.Cond.selects "hexwright/board/Hex" ({ cls := "hexwright/board/Hex", name := "equals", desc := "(Ljava/lang/Object;)Z" } : Jvm.MethodName) ({ cls := "hexwright/board/Hex", name := "equals", desc := "(Ljava/lang/Object;)Z" } : Jvm.MethodName)).before a0 Z = true := hw _ (List.mem_of_getElem? (i := 21) rfl)
theorem tw_19 {a0 : Array Value} {Z : State} (hw : ∀ d ∈ tables_1, d.before a0 Z = true) : (Jvm.Cond.declares ({ cls := "hexwright/board/Hex", name := "equals", desc := "(Ljava/lang/Object;)Z" } : Jvm.MethodName)).before a0 Z = true := hw _ (List.mem_of_getElem? (i := 19) rfl)
theorem tw_20 {a0 : Array Value} {Z : State} (hw : ∀ d ∈ tables_1, d.before a0 Z = true) : (Jvm.Cond.instanceMethod ({ cls := "hexwright/board/Hex", name := "equals", desc := "(Ljava/lang/Object;)Z" } : Jvm.MethodName)).before a0 Z = true := hw _ (List.mem_of_getElem? (i := 20) rfl)
set_option maxRecDepth 65536 in
set_option maxHeartbeats 40000000 in
theorem rm4_9 (l : Launch) (Z : State) (a0 : Array Value) (hw : ∀ d ∈ tables_1, d.before a0 Z = true) (ws : List Jvm.Cond) (c0_a : Addr) (c1_a : Addr) (p0 : Int32) (p2 : Int32) (p1 : Int32) (p3 : Int32) (h0 : Heap) (n0 : Nat) (Z0 : n0 ≤ h0.size) (f1 : E_1 Z h0 c1_a) (f2 : F_0 Z h0 c1_a (.int p0)) (f3 : F_0 Z h0 c0_a (.int p2)) (f4 : p0 = p2) (f5 : F_1 Z h0 c1_a (.int p1)) (f6 : F_1 Z h0 c0_a (.int p3)) (f7 : p1 = p3) :
    MetFree l M_2 (head1 (Jvm.Cond.code M_2 prog_3_method_4_code 3 (some .boolean) :: ws) R_0_0_0_0) (fun a U => a = #[(.ref c0_a), (.ref c1_a)] ∧ Z.Warmed39 U.vm ∧ U.heap = h0) (fun _ _ _ _ _ => True) (fun _ U o U' => ∃ v L, o = .returned v ∧ QP (some (.int 1)) h0 n0 v U'.heap L ∧ FrameEnd U o U' L R_0_0_0_0.cells R_0_0_0_0.slots) := by
  refine MetFree.of_bodySF (plainFor_of_name pn_hexwright_board_Hex) hisR ?_
  intro p e s m args below meth c s₁ Bd hml0 hP hK
  obtain ⟨rfl, hZ, hh⟩ := hP
  have hx := Bd.exec
  have hby := Bd.bytes
  have hml : c.maxLocals = 3 := hml0
  have hown : s.vm.findClass "hexwright/board/Hex" = some m.cls := findClass_of_methodNamed Bd.named
  have hnm := (name_of_methodNamed Bd.named Bd.method).1
  have X0 : Stand p l e R_0_0_0_0 s m #[(.ref c0_a), (.ref c1_a)] below meth c s₁ [] 0 0 := Stand.of_body Bd
  have e0 : s₁.heap = h0 := by rw [← hh, Bd.state]; rfl
  have N0 := Fr.nil n0
  obtain ⟨T1, X1, e1, st1⟩ := instY X0 hx hZ hown (tw_23 hw) e0 (Ins.self f1) (g := (mkF m 1 #[.val (.ref c0_a), .val (.ref c1_a), .unset] [(.ref c1_a)])) rfl rfl (hb hby d4_1)
  obtain ⟨T2, X2, e2, st2⟩ := castY X1 hx hZ hown (tw_23 hw) e1 (Ins.self f1) (g := (mkF m 8 #[.val (.ref c0_a), .val (.ref c1_a), .unset] [(.ref c1_a)])) rfl rfl (hb hby d4_8)
  obtain ⟨T3, X3, e3, st3⟩ := getF X2 hx hZ hown (host := "") (Or.inl (tw_14 hw)) Via.refl e2 f2 (g := (mkF m 13 #[.val (.ref c0_a), .val (.ref c1_a), .val (.ref c1_a)] [(.ref c1_a)])) rfl rfl (hb hby d4_13)
  obtain ⟨T4, X4, e4, st4⟩ := getF X3 hx hZ hown (host := "") (Or.inl (tw_14 hw)) Via.refl e3 f3 (g := (mkF m 17 #[.val (.ref c0_a), .val (.ref c1_a), .val (.ref c1_a)] [(.ref c0_a), (.int p0)])) rfl rfl (hb hby d4_17)
  obtain ⟨T5, X5, e5, st5⟩ := getF X4 hx hZ hown (host := "") (Or.inl (tw_16 hw)) Via.refl e4 f5 (g := (mkF m 24 #[.val (.ref c0_a), .val (.ref c1_a), .val (.ref c1_a)] [(.ref c1_a)])) rfl rfl (hb hby d4_24)
  obtain ⟨T6, X6, e6, st6⟩ := getF X5 hx hZ hown (host := "") (Or.inl (tw_16 hw)) Via.refl e5 f6 (g := (mkF m 28 #[.val (.ref c0_a), .val (.ref c1_a), .val (.ref c1_a)] [(.ref c0_a), (.int p1)])) rfl rfl (hb hby d4_28)
  obtain ⟨fs, hr, hrun, hended, hW, hsame⟩ := X6.leave (v := (some (.int 1))) (fun h => by rw [Bd.returns] at h; cases h)
  refine ⟨_, _, castTop (ef4_RR m c0_a c1_a) ?_, hrun, hended, _, _, rfl, ?_, ⟨_, rfl⟩, hW, hsame.mono (by decide) (by decide)⟩
  · show Steps p.tables e below (s₁.setTop (mkF m 0 #[.val (.ref c0_a), .val (.ref c1_a), .unset] [])) _
    refine XS.aloadN X0.here hx rfl (hb hby d4_0) rfl rfl ?_
    show Steps p.tables e below (s₁.setTop (mkF m 1 #[.val (.ref c0_a), .val (.ref c1_a), .unset] [(.ref c1_a)])) _
    refine st1 _ ?_
    refine XS.ifNo X1.here hx rfl (hb hby d4_4) rfl (by decide) ?_
    refine XS.aloadN X1.here hx rfl (hb hby d4_7) rfl rfl ?_
    show Steps p.tables e below (T1.setTop (mkF m 8 #[.val (.ref c0_a), .val (.ref c1_a), .unset] [(.ref c1_a)])) _
    refine st2 _ ?_
    refine XS.astoreN X2.here hx rfl (hb hby d4_11) rfl rfl (l' := #[.val (.ref c0_a), .val (.ref c1_a), .val (.ref c1_a)]) rfl ?_
    refine XS.aloadN X2.here hx rfl (hb hby d4_12) rfl rfl ?_
    show Steps p.tables e below (T2.setTop (mkF m 13 #[.val (.ref c0_a), .val (.ref c1_a), .val (.ref c1_a)] [(.ref c1_a)])) _
    refine st3 _ ?_
    refine XS.aloadN X3.here hx rfl (hb hby d4_16) rfl rfl ?_
    show Steps p.tables e below (T3.setTop (mkF m 17 #[.val (.ref c0_a), .val (.ref c1_a), .val (.ref c1_a)] [(.ref c0_a), (.int p0)])) _
    refine st4 _ ?_
    refine XS.icmpNo X4.here hx rfl (hb hby d4_20) rfl (teq (f4 : p0 = p2)).2 ?_
    refine XS.aloadN X4.here hx rfl (hb hby d4_23) rfl rfl ?_
    show Steps p.tables e below (T4.setTop (mkF m 24 #[.val (.ref c0_a), .val (.ref c1_a), .val (.ref c1_a)] [(.ref c1_a)])) _
    refine st5 _ ?_
    refine XS.aloadN X5.here hx rfl (hb hby d4_27) rfl rfl ?_
    show Steps p.tables e below (T5.setTop (mkF m 28 #[.val (.ref c0_a), .val (.ref c1_a), .val (.ref c1_a)] [(.ref c0_a), (.int p1)])) _
    refine st6 _ ?_
    refine XS.icmpNo X6.here hx rfl (hb hby d4_31) rfl (teq (f7 : p1 = p3)).2 ?_
    refine XS.iconst X6.here hx rfl (hb hby d4_34) ?_
    refine XS.goto X6.here hx rfl (pc0 := 35) (pc' := 39) rfl (hb hby d4_35) (by decide) (by decide) ?_
    show Steps p.tables e below (T6.setTop (mkF m 39 #[.val (.ref c0_a), .val (.ref c1_a), .val (.ref c1_a)] [(.int 1)])) _
    exact retN X6 hx (t := .boolean) Bd.returns (by simp) (hb hby d4_39) hr
  · show QP (some (.int 1)) h0 n0 _ T6.heap _
    rw [e6]
    exact ⟨rfl, N0, rfl⟩
theorem ef0_IIIII (m : MethodId) (x0 : Int32) (x1 : Int32) (x2 : Int32) (x3 : Int32) (x4 : Int32) : entryFrame m #[(.int x0), (.int x1), (.int x2), (.int x3), (.int x4)] maxLocals = mkF m 0 #[.val (.int x0), .val (.int x1), .val (.int x2), .val (.int x3), .val (.int x4), .unset, .unset, .unset, .unset, .unset, .unset] [] := by first | (simp [entryFrame, mkF, argsToLocals, Value.category, maxLocals]; done) | rfl
theorem pn_hexwright_board_HexEqualsPinLaw : plainName "hexwright/board/HexEqualsPinLaw" = true := by first | (simp [plainName, overriddenIn]; done) | decide +kernel
set_option maxRecDepth 65536 in
set_option maxHeartbeats 40000000 in
theorem rm0_10 (l : Launch) (Z : State) (a0 : Array Value) (hw : ∀ d ∈ tables_1, d.before a0 Z = true) (ws : List Jvm.Cond) (p0 : Int32) (p1 : Int32) (p2 : Int32) (p3 : Int32) (p4 : Int32) (h0 : Heap) (n0 : Nat) (Z0 : n0 ≤ h0.size) (f1 : (p4 &&& (1 : Int32)) = (0 : Int32)) (f2 : (p4 &&& (2 : Int32)) = (0 : Int32)) (f3 : (((p4.toUInt32 >>> ((2 : Int32) &&& 31).toUInt32).toInt32) &&& (3 : Int32)) = (0 : Int32)) (f4 : p2 = p0) (f5 : p3 = p1) (f6 : p0 = p2) (f7 : p1 = p3) :
    MetFree l x (head1 (Jvm.Cond.code x code maxLocals ret :: ws) room_1) (fun a U => a = #[(.int p0), (.int p1), (.int p2), (.int p3), (.int p4)] ∧ Z.Warmed39 U.vm ∧ U.heap = h0) (fun _ _ _ _ _ => True) (fun _ U o U' => ∃ v L, o = .returned v ∧ QT n0 v U'.heap L ∧ FrameEnd U o U' L room_1.cells room_1.slots) := by
  refine MetFree.of_bodySF (plainFor_of_name pn_hexwright_board_HexEqualsPinLaw) hisR ?_
  intro p e s m args below meth c s₁ Bd hml0 hP hK
  obtain ⟨rfl, hZ, hh⟩ := hP
  have hx := Bd.exec
  have hby := Bd.bytes
  have hml : c.maxLocals = 11 := hml0
  have hown : s.vm.findClass "hexwright/board/HexEqualsPinLaw" = some m.cls := findClass_of_methodNamed Bd.named
  have hnm := (name_of_methodNamed Bd.named Bd.method).1
  have X0 : Stand p l e room_1 s m #[(.int p0), (.int p1), (.int p2), (.int p3), (.int p4)] below meth c s₁ [] 0 0 := Stand.of_body Bd
  have e0 : s₁.heap = h0 := by rw [← hh, Bd.state]; rfl
  have N0 := Fr.nil n0
  obtain ⟨T1, h1, X1, e1, E1, A1, D1, -, st1⟩ := newO X0 hx hZ hown (tw_0 hw) (tw_1 hw) (tw_2 hw) e0 (g := (mkF m 36 #[.val (.int p0), .val (.int p1), .val (.int p2), .val (.int p3), .val (.int p4), .val (.int p2), .val (.int p3), .val (.int 0), .unset, .unset, .unset] [])) rfl (hb hby at_36) (by decide) (by decide)
  obtain ⟨b1, g1⟩ : ∃ z, z = h0.size := ⟨_, rfl⟩
  rw [← g1] at A1 D1 st1
  have sz_b1 : h0.size ≤ b1 := Nat.le_trans (Nat.le_refl _) (Nat.le_of_eq g1.symm)
  have g_b1 : n0 ≤ b1 := Nat.le_trans Z0 sz_b1
  have KK1 : Keep h0 h1 [] := (Keep.refl h0 []).ext E1
  have F1_15 : F_0 Z h1 b1 (.int 0) := D1 (Or.inr (tw_15 hw)) (ty := .int) (by decide)
  have F1_17 : F_1 Z h1 b1 (.int 0) := D1 (Or.inr (tw_17 hw)) (ty := .int) (by decide)
  -- pc 42: hexwright/board/Hex.<init>
  obtain ⟨_, _, ⟨T2, L2, k2, n2⟩, -, X2, ⟨Lc2, hQ2, l2, y2, z2⟩, st2⟩ := X1.specialBack hx (y := M_1) rfl hown (mvT hZ (tw_3 hw)) (mvT hZ (tw_4 hw)) (mvT hZ (tw_5 hw)) (by decide) (backOf (W := 1) (rm1_3 l Z a0 hw [] b1 p0 p1 h1 n0 (Nat.le_trans Z0 KK1.1) F1_15 A1 g_b1 F1_17) hZ (tw_5 hw) (tw_2 hw) (by decide) (by decide)) (g := (mkF m 42 #[.val (.int p0), .val (.int p1), .val (.int p2), .val (.int p3), .val (.int p4), .val (.int p2), .val (.int p3), .val (.int 0), .unset, .unset, .unset] [(.int p1), (.int p0), (.ref b1), (.ref b1)])) rfl (by rw [hml]; rfl) (Steps.refl _) (a := b1) (argsL := [(.int p0), (.int p1)]) (rest := [(.ref b1)]) (lenOf pd_1 rfl) rfl (by show 2 * 0 + _ ≤ _; exact Nat.le_of_eq rfl) (hb hby at_42) (fun _ _ => ⟨rfl, e1, (by decide : 1 + 0 ≤ _), (by decide : 2 + 0 ≤ _)⟩)
  dsimp only [Pt.U, Pt.locs, Pt.cells, Pt.slots] at X2 l2 y2 z2 st2 hQ2
  subst l2 y2 z2
  obtain ⟨rfl, Nq2, K2, o2_0, o2_1⟩ := hQ2
  have N2 := Fr.app N0 Nq2
  have KK2 : Keep h0 T2.heap [] := KK1.trans K2 (fun x hx => (List.mem_cons.mp hx).elim (fun q => q ▸ (Or.inr sz_b1)) (fun hx => nomatch hx))
  obtain ⟨T3, h3, X3, e3, E3, A3, D3, -, st3⟩ := newO X2 hx hZ hown (tw_0 hw) (tw_1 hw) (tw_2 hw) rfl (g := (mkF m 47 #[.val (.int p0), .val (.int p1), .val (.int p2), .val (.int p3), .val (.int p4), .val (.int p2), .val (.int p3), .val (.int 0), .val (.ref b1), .unset, .unset] [])) rfl (hb hby at_47) (by decide) (by decide)
  obtain ⟨b5, g3⟩ : ∃ z, z = T2.heap.size := ⟨_, rfl⟩
  rw [← g3] at A3 D3 st3
  have sz_b5 : h0.size ≤ b5 := Nat.le_trans KK2.1 (Nat.le_of_eq g3.symm)
  have g_b5 : n0 ≤ b5 := Nat.le_trans Z0 sz_b5
  have KK3 : Keep h0 h3 [] := KK2.ext E3
  have F3_15 : F_0 Z h3 b5 (.int 0) := D3 (Or.inr (tw_15 hw)) (ty := .int) (by decide)
  have F3_17 : F_1 Z h3 b5 (.int 0) := D3 (Or.inr (tw_17 hw)) (ty := .int) (by decide)
  -- pc 55: hexwright/board/Hex.<init>
  obtain ⟨_, _, ⟨T4, L4, k4, n4⟩, -, X4, ⟨Lc4, hQ4, l4, y4, z4⟩, st4⟩ := X3.specialBack hx (y := M_1) rfl hown (mvT hZ (tw_3 hw)) (mvT hZ (tw_4 hw)) (mvT hZ (tw_5 hw)) (by decide) (backOf (W := 1) (rm1_6 l Z a0 hw [] b5 p2 p3 h3 n0 (Nat.le_trans Z0 KK3.1) F3_15 A3 g_b5 F3_17) hZ (tw_5 hw) (tw_2 hw) (by decide) (by decide)) (g := (mkF m 55 #[.val (.int p0), .val (.int p1), .val (.int p2), .val (.int p3), .val (.int p4), .val (.int p2), .val (.int p3), .val (.int 0), .val (.ref b1), .unset, .unset] [(.int p3), (.int p2), (.ref b5), (.ref b5)])) rfl (by rw [hml]; rfl) (Steps.refl _) (a := b5) (argsL := [(.int p2), (.int p3)]) (rest := [(.ref b5)]) (lenOf pd_1 rfl) rfl (by show 2 * 0 + _ ≤ _; exact Nat.le_of_eq rfl) (hb hby at_55) (fun _ _ => ⟨rfl, e3, (by decide : 2 + 0 ≤ _), (by decide : 4 + 0 ≤ _)⟩)
  dsimp only [Pt.U, Pt.locs, Pt.cells, Pt.slots] at X4 l4 y4 z4 st4 hQ4
  subst l4 y4 z4
  obtain ⟨rfl, Nq4, K4, o4_0, o4_1⟩ := hQ4
  have N4 := Fr.app N2 Nq4
  have KK4 : Keep h0 T4.heap [] := KK3.trans K4 (fun x hx => (List.mem_cons.mp hx).elim (fun q => q ▸ (Or.inr sz_b5)) (fun hx => nomatch hx))
  -- pc 88: hexwright/board/Hex.equals
  have u5 : E_1 Z T4.heap b5 := Exa.keep A3 K4
  have u6 : F_0 Z h3 b1 (.int p0) := Fld.ext E3 o2_0
  have u7 : E_1 Z T2.heap b1 := Exa.keep A1 K2
  have ne8 : b1 ≠ b5 := Nat.ne_of_lt (Nat.lt_of_lt_of_le (Exa.lt u7) (Nat.le_of_eq g3.symm))
  have u9 : F_0 Z T4.heap b1 (.int p0) := Fld.keep u6 K4 (own_notin ne8 List.not_mem_nil)
  have u10 : F_1 Z h3 b1 (.int p1) := Fld.ext E3 o2_1
  have u11 : F_1 Z T4.heap b1 (.int p1) := Fld.keep u10 K4 (own_notin ne8 List.not_mem_nil)
  have u13 : E_1 Z h3 b1 := Exa.ext E3 u7
  have u14 : E_1 Z T4.heap b1 := Exa.keep u13 K4
  obtain ⟨cq12, kq12, q12a, q12b, q12c⟩ := isOf hZ rfl u14
  obtain ⟨_, _, ⟨T12, L12, k12, n12⟩, -, X12, ⟨Lc12, hQ12, l12, y12, z12⟩, st12⟩ := X4.virtualBack hx (y := M_2) (z := M_2) hown (mvT hZ (tw_18 hw)) (mvT hZ (tw_19 hw)) (notFace_of_selects (args := #[]) (mvT hZ (tw_21 hw))) (mvT hZ (tw_21 hw)) (mvT hZ (tw_20 hw)) (by decide) (backOf (W := 0) (rm4_8 l Z a0 hw [] b1 b5 p2 p0 p3 p1 T4.heap n0 (Nat.le_trans Z0 KK4.1) u5 o4_0 u9 f4 o4_1 u11 f5) hZ (tw_22 hw) (tw_2 hw) (by decide) (by decide)) q12a q12c (g := (mkF m 88 #[.val (.int p0), .val (.int p1), .val (.int p2), .val (.int p3), .val (.int p4), .val (.int p2), .val (.int p3), .val (.int 0), .val (.ref b1), .val (.ref b5), .val (.int 1)] [(.ref b5), (.ref b1)])) rfl (by rw [hml]; rfl) (Steps.refl _) (argsL := [(.ref b5)]) (rest := []) (lenOf pd_2 rfl) rfl (by show 2 * 0 + _ ≤ _; exact Nat.le_of_eq rfl) (hb hby at_88) (fun _ _ => ⟨rfl, rfl, (by decide : 2 + 0 ≤ _), (by decide : 4 + 0 ≤ _)⟩)
  dsimp only [Pt.U, Pt.locs, Pt.cells, Pt.slots] at X12 l12 y12 z12 st12 hQ12
  subst l12 y12 z12
  obtain ⟨rfl, Nq12, e12⟩ := hQ12
  have N12 := Fr.app N4 Nq12
  -- pc 100: hexwright/board/Hex.equals
  obtain ⟨cq15, kq15, q15a, q15b, q15c⟩ := isOf hZ e12 u5
  obtain ⟨_, _, ⟨T15, L15, k15, n15⟩, -, X15, ⟨Lc15, hQ15, l15, y15, z15⟩, st15⟩ := X12.virtualBack hx (y := M_2) (z := M_2) hown (mvT hZ (tw_18 hw)) (mvT hZ (tw_19 hw)) (notFace_of_selects (args := #[]) (mvT hZ (tw_21 hw))) (mvT hZ (tw_21 hw)) (mvT hZ (tw_20 hw)) (by decide) (backOf (W := 0) (rm4_9 l Z a0 hw [] b5 b1 p0 p2 p1 p3 T4.heap n0 (Nat.le_trans Z0 KK4.1) u14 u9 o4_0 f6 u11 o4_1 f7) hZ (tw_22 hw) (tw_2 hw) (by decide) (by decide)) q15a q15c (g := (mkF m 100 #[.val (.int p0), .val (.int p1), .val (.int p2), .val (.int p3), .val (.int p4), .val (.int p2), .val (.int p3), .val (.int 0), .val (.ref b1), .val (.ref b5), .val (.int 1)] [(.ref b1), (.ref b5)])) rfl (by rw [hml]; rfl) (Steps.refl _) (argsL := [(.ref b1)]) (rest := []) (lenOf pd_2 rfl) rfl (by show 2 * 0 + _ ≤ _; exact Nat.le_of_eq rfl) (hb hby at_100) (fun _ _ => ⟨rfl, e12, (by decide : 2 + 0 ≤ _), (by decide : 4 + 0 ≤ _)⟩)
  dsimp only [Pt.U, Pt.locs, Pt.cells, Pt.slots] at X15 l15 y15 z15 st15 hQ15
  subst l15 y15 z15
  obtain ⟨rfl, Nq15, e15⟩ := hQ15
  have N15 := Fr.app N12 Nq15
  obtain ⟨fs, hr, hrun, hended, hW, hsame⟩ := X15.leave (v := (some (.int 1))) (fun h => by rw [Bd.returns] at h; cases h)
  refine ⟨_, _, castTop (ef0_IIIII m p0 p1 p2 p3 p4) ?_, hrun, hended, _, _, rfl, ?_, ⟨_, rfl⟩, hW, hsame.mono (by decide) (by decide)⟩
  · show Steps p.tables e below (s₁.setTop (mkF m 0 #[.val (.int p0), .val (.int p1), .val (.int p2), .val (.int p3), .val (.int p4), .unset, .unset, .unset, .unset, .unset, .unset] [])) _
    refine XS.iload X0.here hx rfl (hb hby at_0) rfl ?_
    refine XS.iconst X0.here hx rfl (hb hby at_2) ?_
    show Steps p.tables e below (s₁.setTop (mkF m 3 #[.val (.int p0), .val (.int p1), .val (.int p2), .val (.int p3), .val (.int p4), .unset, .unset, .unset, .unset, .unset, .unset] [(.int 1), (.int p4)])) _
    refine XS.iand X0.here hx rfl (hb hby at_3) rfl ?_
    refine XS.ifYes X0.here hx rfl (pc0 := 4) (pc' := 11) rfl (hb hby at_4) rfl ((if0 _ _).trans (teq (f1 : (p4 &&& (1 : Int32)) = (0 : Int32))).1) (by decide) (by decide) ?_
    refine XS.iloadN X0.here hx rfl (hb hby at_11) rfl ?_
    refine XS.istore X0.here hx rfl (hb hby at_12) rfl (l' := #[.val (.int p0), .val (.int p1), .val (.int p2), .val (.int p3), .val (.int p4), .val (.int p2), .unset, .unset, .unset, .unset, .unset]) rfl ?_
    refine XS.iload X0.here hx rfl (hb hby at_14) rfl ?_
    show Steps p.tables e below (s₁.setTop (mkF m 16 #[.val (.int p0), .val (.int p1), .val (.int p2), .val (.int p3), .val (.int p4), .val (.int p2), .unset, .unset, .unset, .unset, .unset] [(.int p4)])) _
    refine XS.iconst X0.here hx rfl (hb hby at_16) ?_
    show Steps p.tables e below (s₁.setTop (mkF m 17 #[.val (.int p0), .val (.int p1), .val (.int p2), .val (.int p3), .val (.int p4), .val (.int p2), .unset, .unset, .unset, .unset, .unset] [(.int 2), (.int p4)])) _
    refine XS.iand X0.here hx rfl (hb hby at_17) rfl ?_
    refine XS.ifYes X0.here hx rfl (pc0 := 18) (pc' := 25) rfl (hb hby at_18) rfl ((if0 _ _).trans (teq (f2 : (p4 &&& (2 : Int32)) = (0 : Int32))).1) (by decide) (by decide) ?_
    refine XS.iloadN X0.here hx rfl (hb hby at_25) rfl ?_
    refine XS.istore X0.here hx rfl (hb hby at_26) rfl (l' := #[.val (.int p0), .val (.int p1), .val (.int p2), .val (.int p3), .val (.int p4), .val (.int p2), .val (.int p3), .unset, .unset, .unset, .unset]) rfl ?_
    refine XS.iload X0.here hx rfl (hb hby at_28) rfl ?_
    show Steps p.tables e below (s₁.setTop (mkF m 30 #[.val (.int p0), .val (.int p1), .val (.int p2), .val (.int p3), .val (.int p4), .val (.int p2), .val (.int p3), .unset, .unset, .unset, .unset] [(.int p4)])) _
    refine XS.iconst X0.here hx rfl (hb hby at_30) ?_
    show Steps p.tables e below (s₁.setTop (mkF m 31 #[.val (.int p0), .val (.int p1), .val (.int p2), .val (.int p3), .val (.int p4), .val (.int p2), .val (.int p3), .unset, .unset, .unset, .unset] [(.int 2), (.int p4)])) _
    refine XS.iushr X0.here hx rfl (hb hby at_31) rfl ?_
    refine XS.iconst X0.here hx rfl (hb hby at_32) ?_
    show Steps p.tables e below (s₁.setTop (mkF m 33 #[.val (.int p0), .val (.int p1), .val (.int p2), .val (.int p3), .val (.int p4), .val (.int p2), .val (.int p3), .unset, .unset, .unset, .unset] [(.int 3), (.int ((p4.toUInt32 >>> ((2 : Int32) &&& 31).toUInt32).toInt32))])) _
    refine XS.iand X0.here hx rfl (hb hby at_33) rfl ?_
    show Steps p.tables e below (s₁.setTop (mkF m 34 #[.val (.int p0), .val (.int p1), .val (.int p2), .val (.int p3), .val (.int p4), .val (.int p2), .val (.int p3), .unset, .unset, .unset, .unset] [(.int (((p4.toUInt32 >>> ((2 : Int32) &&& 31).toUInt32).toInt32) &&& (3 : Int32)))])) _
    rw [f3]
    refine XS.istore X0.here hx rfl (hb hby at_34) rfl (l' := #[.val (.int p0), .val (.int p1), .val (.int p2), .val (.int p3), .val (.int p4), .val (.int p2), .val (.int p3), .val (.int 0), .unset, .unset, .unset]) rfl ?_
    show Steps p.tables e below (s₁.setTop (mkF m 36 #[.val (.int p0), .val (.int p1), .val (.int p2), .val (.int p3), .val (.int p4), .val (.int p2), .val (.int p3), .val (.int 0), .unset, .unset, .unset] [])) _
    refine st1 _ ?_
    refine XS.dup X1.here hx rfl (hb hby at_39) rfl rfl ?_
    refine XS.iloadN X1.here hx rfl (hb hby at_40) rfl ?_
    refine XS.iloadN X1.here hx rfl (hb hby at_41) rfl ?_
    show Steps p.tables e below (T1.setTop (mkF m 42 #[.val (.int p0), .val (.int p1), .val (.int p2), .val (.int p3), .val (.int p4), .val (.int p2), .val (.int p3), .val (.int 0), .unset, .unset, .unset] [(.int p1), (.int p0), (.ref b1), (.ref b1)])) _
    refine st2.trans ?_
    refine XS.astore X2.here hx rfl (hb hby at_45) rfl rfl (l' := #[.val (.int p0), .val (.int p1), .val (.int p2), .val (.int p3), .val (.int p4), .val (.int p2), .val (.int p3), .val (.int 0), .val (.ref b1), .unset, .unset]) rfl ?_
    show Steps p.tables e below (T2.setTop (mkF m 47 #[.val (.int p0), .val (.int p1), .val (.int p2), .val (.int p3), .val (.int p4), .val (.int p2), .val (.int p3), .val (.int 0), .val (.ref b1), .unset, .unset] [])) _
    refine st3 _ ?_
    refine XS.dup X3.here hx rfl (hb hby at_50) rfl rfl ?_
    refine XS.iload X3.here hx rfl (hb hby at_51) rfl ?_
    refine XS.iload X3.here hx rfl (hb hby at_53) rfl ?_
    show Steps p.tables e below (T3.setTop (mkF m 55 #[.val (.int p0), .val (.int p1), .val (.int p2), .val (.int p3), .val (.int p4), .val (.int p2), .val (.int p3), .val (.int 0), .val (.ref b1), .unset, .unset] [(.int p3), (.int p2), (.ref b5), (.ref b5)])) _
    refine st4.trans ?_
    refine XS.astore X4.here hx rfl (hb hby at_58) rfl rfl (l' := #[.val (.int p0), .val (.int p1), .val (.int p2), .val (.int p3), .val (.int p4), .val (.int p2), .val (.int p3), .val (.int 0), .val (.ref b1), .val (.ref b5), .unset]) rfl ?_
    refine XS.iload X4.here hx rfl (hb hby at_60) rfl ?_
    refine XS.ifNo X4.here hx rfl (hb hby at_62) rfl (by decide) ?_
    refine XS.iload X4.here hx rfl (hb hby at_65) rfl ?_
    show Steps p.tables e below (T4.setTop (mkF m 67 #[.val (.int p0), .val (.int p1), .val (.int p2), .val (.int p3), .val (.int p4), .val (.int p2), .val (.int p3), .val (.int 0), .val (.ref b1), .val (.ref b5), .unset] [(.int p2)])) _
    refine XS.iloadN X4.here hx rfl (hb hby at_67) rfl ?_
    refine XS.icmpNo X4.here hx rfl (hb hby at_68) rfl (teq (f4 : p2 = p0)).2 ?_
    refine XS.iload X4.here hx rfl (hb hby at_71) rfl ?_
    refine XS.iloadN X4.here hx rfl (hb hby at_73) rfl ?_
    refine XS.icmpNo X4.here hx rfl (hb hby at_74) rfl (teq (f5 : p3 = p1)).2 ?_
    show Steps p.tables e below (T4.setTop (mkF m 77 #[.val (.int p0), .val (.int p1), .val (.int p2), .val (.int p3), .val (.int p4), .val (.int p2), .val (.int p3), .val (.int 0), .val (.ref b1), .val (.ref b5), .unset] [])) _
    refine XS.iconst X4.here hx rfl (hb hby at_77) ?_
    refine XS.goto X4.here hx rfl (pc0 := 78) (pc' := 82) rfl (hb hby at_78) (by decide) (by decide) ?_
    refine XS.istore X4.here hx rfl (hb hby at_82) rfl (l' := #[.val (.int p0), .val (.int p1), .val (.int p2), .val (.int p3), .val (.int p4), .val (.int p2), .val (.int p3), .val (.int 0), .val (.ref b1), .val (.ref b5), .val (.int 1)]) rfl ?_
    refine XS.aload X4.here hx rfl (hb hby at_84) rfl rfl ?_
    refine XS.aload X4.here hx rfl (hb hby at_86) rfl rfl ?_
    show Steps p.tables e below (T4.setTop (mkF m 88 #[.val (.int p0), .val (.int p1), .val (.int p2), .val (.int p3), .val (.int p4), .val (.int p2), .val (.int p3), .val (.int 0), .val (.ref b1), .val (.ref b5), .val (.int 1)] [(.ref b5), (.ref b1)])) _
    refine st12.trans ?_
    refine XS.iload X12.here hx rfl (hb hby at_91) rfl ?_
    refine XS.icmpNo X12.here hx rfl (hb hby at_93) rfl (by decide) ?_
    refine XS.aload X12.here hx rfl (hb hby at_96) rfl rfl ?_
    refine XS.aload X12.here hx rfl (hb hby at_98) rfl rfl ?_
    show Steps p.tables e below (T12.setTop (mkF m 100 #[.val (.int p0), .val (.int p1), .val (.int p2), .val (.int p3), .val (.int p4), .val (.int p2), .val (.int p3), .val (.int 0), .val (.ref b1), .val (.ref b5), .val (.int 1)] [(.ref b1), (.ref b5)])) _
    refine st15.trans ?_
    refine XS.iload X15.here hx rfl (hb hby at_103) rfl ?_
    refine XS.icmpNo X15.here hx rfl (hb hby at_105) rfl (by decide) ?_
    refine XS.iconst X15.here hx rfl (hb hby at_108) ?_
    refine XS.goto X15.here hx rfl (pc0 := 109) (pc' := 113) rfl (hb hby at_109) (by decide) (by decide) ?_
    show Steps p.tables e below (T15.setTop (mkF m 113 #[.val (.int p0), .val (.int p1), .val (.int p2), .val (.int p3), .val (.int p4), .val (.int p2), .val (.int p3), .val (.int 0), .val (.ref b1), .val (.ref b5), .val (.int 1)] [(.int 1)])) _
    exact retN X15 hx (t := .boolean) Bd.returns (by simp) (hb hby at_113) hr
  · show QT n0 _ T15.heap _
    rw [e15]
    exact ⟨rfl, N15⟩
theorem d4_38 : decode prog_3_method_4_code 38 = .ok (.iconst 0, 1) := by decide +kernel
set_option maxRecDepth 65536 in
set_option maxHeartbeats 40000000 in
theorem rm4_13 (l : Launch) (Z : State) (a0 : Array Value) (hw : ∀ d ∈ tables_1, d.before a0 Z = true) (ws : List Jvm.Cond) (c0_a : Addr) (c1_a : Addr) (p2 : Int32) (p0 : Int32) (p3 : Int32) (p1 : Int32) (h0 : Heap) (n0 : Nat) (Z0 : n0 ≤ h0.size) (f1 : E_1 Z h0 c1_a) (f2 : F_0 Z h0 c1_a (.int p2)) (f3 : F_0 Z h0 c0_a (.int p0)) (f4 : p2 = p0) (f5 : F_1 Z h0 c1_a (.int p3)) (f6 : F_1 Z h0 c0_a (.int p1)) (f7 : ¬ (p3 = p1)) :
    MetFree l M_2 (head1 (Jvm.Cond.code M_2 prog_3_method_4_code 3 (some .boolean) :: ws) R_0_0_0_0) (fun a U => a = #[(.ref c0_a), (.ref c1_a)] ∧ Z.Warmed39 U.vm ∧ U.heap = h0) (fun _ _ _ _ _ => True) (fun _ U o U' => ∃ v L, o = .returned v ∧ QP (some (.int 0)) h0 n0 v U'.heap L ∧ FrameEnd U o U' L R_0_0_0_0.cells R_0_0_0_0.slots) := by
  refine MetFree.of_bodySF (plainFor_of_name pn_hexwright_board_Hex) hisR ?_
  intro p e s m args below meth c s₁ Bd hml0 hP hK
  obtain ⟨rfl, hZ, hh⟩ := hP
  have hx := Bd.exec
  have hby := Bd.bytes
  have hml : c.maxLocals = 3 := hml0
  have hown : s.vm.findClass "hexwright/board/Hex" = some m.cls := findClass_of_methodNamed Bd.named
  have hnm := (name_of_methodNamed Bd.named Bd.method).1
  have X0 : Stand p l e R_0_0_0_0 s m #[(.ref c0_a), (.ref c1_a)] below meth c s₁ [] 0 0 := Stand.of_body Bd
  have e0 : s₁.heap = h0 := by rw [← hh, Bd.state]; rfl
  have N0 := Fr.nil n0
  obtain ⟨T1, X1, e1, st1⟩ := instY X0 hx hZ hown (tw_23 hw) e0 (Ins.self f1) (g := (mkF m 1 #[.val (.ref c0_a), .val (.ref c1_a), .unset] [(.ref c1_a)])) rfl rfl (hb hby d4_1)
  obtain ⟨T2, X2, e2, st2⟩ := castY X1 hx hZ hown (tw_23 hw) e1 (Ins.self f1) (g := (mkF m 8 #[.val (.ref c0_a), .val (.ref c1_a), .unset] [(.ref c1_a)])) rfl rfl (hb hby d4_8)
  obtain ⟨T3, X3, e3, st3⟩ := getF X2 hx hZ hown (host := "") (Or.inl (tw_14 hw)) Via.refl e2 f2 (g := (mkF m 13 #[.val (.ref c0_a), .val (.ref c1_a), .val (.ref c1_a)] [(.ref c1_a)])) rfl rfl (hb hby d4_13)
  obtain ⟨T4, X4, e4, st4⟩ := getF X3 hx hZ hown (host := "") (Or.inl (tw_14 hw)) Via.refl e3 f3 (g := (mkF m 17 #[.val (.ref c0_a), .val (.ref c1_a), .val (.ref c1_a)] [(.ref c0_a), (.int p2)])) rfl rfl (hb hby d4_17)
  obtain ⟨T5, X5, e5, st5⟩ := getF X4 hx hZ hown (host := "") (Or.inl (tw_16 hw)) Via.refl e4 f5 (g := (mkF m 24 #[.val (.ref c0_a), .val (.ref c1_a), .val (.ref c1_a)] [(.ref c1_a)])) rfl rfl (hb hby d4_24)
  obtain ⟨T6, X6, e6, st6⟩ := getF X5 hx hZ hown (host := "") (Or.inl (tw_16 hw)) Via.refl e5 f6 (g := (mkF m 28 #[.val (.ref c0_a), .val (.ref c1_a), .val (.ref c1_a)] [(.ref c0_a), (.int p3)])) rfl rfl (hb hby d4_28)
  obtain ⟨fs, hr, hrun, hended, hW, hsame⟩ := X6.leave (v := (some (.int 0))) (fun h => by rw [Bd.returns] at h; cases h)
  refine ⟨_, _, castTop (ef4_RR m c0_a c1_a) ?_, hrun, hended, _, _, rfl, ?_, ⟨_, rfl⟩, hW, hsame.mono (by decide) (by decide)⟩
  · show Steps p.tables e below (s₁.setTop (mkF m 0 #[.val (.ref c0_a), .val (.ref c1_a), .unset] [])) _
    refine XS.aloadN X0.here hx rfl (hb hby d4_0) rfl rfl ?_
    show Steps p.tables e below (s₁.setTop (mkF m 1 #[.val (.ref c0_a), .val (.ref c1_a), .unset] [(.ref c1_a)])) _
    refine st1 _ ?_
    refine XS.ifNo X1.here hx rfl (hb hby d4_4) rfl (by decide) ?_
    refine XS.aloadN X1.here hx rfl (hb hby d4_7) rfl rfl ?_
    show Steps p.tables e below (T1.setTop (mkF m 8 #[.val (.ref c0_a), .val (.ref c1_a), .unset] [(.ref c1_a)])) _
    refine st2 _ ?_
    refine XS.astoreN X2.here hx rfl (hb hby d4_11) rfl rfl (l' := #[.val (.ref c0_a), .val (.ref c1_a), .val (.ref c1_a)]) rfl ?_
    refine XS.aloadN X2.here hx rfl (hb hby d4_12) rfl rfl ?_
    show Steps p.tables e below (T2.setTop (mkF m 13 #[.val (.ref c0_a), .val (.ref c1_a), .val (.ref c1_a)] [(.ref c1_a)])) _
    refine st3 _ ?_
    refine XS.aloadN X3.here hx rfl (hb hby d4_16) rfl rfl ?_
    show Steps p.tables e below (T3.setTop (mkF m 17 #[.val (.ref c0_a), .val (.ref c1_a), .val (.ref c1_a)] [(.ref c0_a), (.int p2)])) _
    refine st4 _ ?_
    refine XS.icmpNo X4.here hx rfl (hb hby d4_20) rfl (teq (f4 : p2 = p0)).2 ?_
    refine XS.aloadN X4.here hx rfl (hb hby d4_23) rfl rfl ?_
    show Steps p.tables e below (T4.setTop (mkF m 24 #[.val (.ref c0_a), .val (.ref c1_a), .val (.ref c1_a)] [(.ref c1_a)])) _
    refine st5 _ ?_
    refine XS.aloadN X5.here hx rfl (hb hby d4_27) rfl rfl ?_
    show Steps p.tables e below (T5.setTop (mkF m 28 #[.val (.ref c0_a), .val (.ref c1_a), .val (.ref c1_a)] [(.ref c0_a), (.int p3)])) _
    refine st6 _ ?_
    refine XS.icmpYes X6.here hx rfl (pc0 := 31) (pc' := 38) rfl (hb hby d4_31) rfl (feq (f7 : ¬ (p3 = p1))).2 (by decide) (by decide) ?_
    refine XS.iconst X6.here hx rfl (hb hby d4_38) ?_
    show Steps p.tables e below (T6.setTop (mkF m 39 #[.val (.ref c0_a), .val (.ref c1_a), .val (.ref c1_a)] [(.int 0)])) _
    exact retN X6 hx (t := .boolean) Bd.returns (by simp) (hb hby d4_39) hr
  · show QP (some (.int 0)) h0 n0 _ T6.heap _
    rw [e6]
    exact ⟨rfl, N0, rfl⟩
set_option maxRecDepth 65536 in
set_option maxHeartbeats 40000000 in
theorem rm4_14 (l : Launch) (Z : State) (a0 : Array Value) (hw : ∀ d ∈ tables_1, d.before a0 Z = true) (ws : List Jvm.Cond) (c0_a : Addr) (c1_a : Addr) (p0 : Int32) (p2 : Int32) (p1 : Int32) (p3 : Int32) (h0 : Heap) (n0 : Nat) (Z0 : n0 ≤ h0.size) (f1 : E_1 Z h0 c1_a) (f2 : F_0 Z h0 c1_a (.int p0)) (f3 : F_0 Z h0 c0_a (.int p2)) (f4 : p0 = p2) (f5 : F_1 Z h0 c1_a (.int p1)) (f6 : F_1 Z h0 c0_a (.int p3)) (f7 : ¬ (p1 = p3)) :
    MetFree l M_2 (head1 (Jvm.Cond.code M_2 prog_3_method_4_code 3 (some .boolean) :: ws) R_0_0_0_0) (fun a U => a = #[(.ref c0_a), (.ref c1_a)] ∧ Z.Warmed39 U.vm ∧ U.heap = h0) (fun _ _ _ _ _ => True) (fun _ U o U' => ∃ v L, o = .returned v ∧ QP (some (.int 0)) h0 n0 v U'.heap L ∧ FrameEnd U o U' L R_0_0_0_0.cells R_0_0_0_0.slots) := by
  refine MetFree.of_bodySF (plainFor_of_name pn_hexwright_board_Hex) hisR ?_
  intro p e s m args below meth c s₁ Bd hml0 hP hK
  obtain ⟨rfl, hZ, hh⟩ := hP
  have hx := Bd.exec
  have hby := Bd.bytes
  have hml : c.maxLocals = 3 := hml0
  have hown : s.vm.findClass "hexwright/board/Hex" = some m.cls := findClass_of_methodNamed Bd.named
  have hnm := (name_of_methodNamed Bd.named Bd.method).1
  have X0 : Stand p l e R_0_0_0_0 s m #[(.ref c0_a), (.ref c1_a)] below meth c s₁ [] 0 0 := Stand.of_body Bd
  have e0 : s₁.heap = h0 := by rw [← hh, Bd.state]; rfl
  have N0 := Fr.nil n0
  obtain ⟨T1, X1, e1, st1⟩ := instY X0 hx hZ hown (tw_23 hw) e0 (Ins.self f1) (g := (mkF m 1 #[.val (.ref c0_a), .val (.ref c1_a), .unset] [(.ref c1_a)])) rfl rfl (hb hby d4_1)
  obtain ⟨T2, X2, e2, st2⟩ := castY X1 hx hZ hown (tw_23 hw) e1 (Ins.self f1) (g := (mkF m 8 #[.val (.ref c0_a), .val (.ref c1_a), .unset] [(.ref c1_a)])) rfl rfl (hb hby d4_8)
  obtain ⟨T3, X3, e3, st3⟩ := getF X2 hx hZ hown (host := "") (Or.inl (tw_14 hw)) Via.refl e2 f2 (g := (mkF m 13 #[.val (.ref c0_a), .val (.ref c1_a), .val (.ref c1_a)] [(.ref c1_a)])) rfl rfl (hb hby d4_13)
  obtain ⟨T4, X4, e4, st4⟩ := getF X3 hx hZ hown (host := "") (Or.inl (tw_14 hw)) Via.refl e3 f3 (g := (mkF m 17 #[.val (.ref c0_a), .val (.ref c1_a), .val (.ref c1_a)] [(.ref c0_a), (.int p0)])) rfl rfl (hb hby d4_17)
  obtain ⟨T5, X5, e5, st5⟩ := getF X4 hx hZ hown (host := "") (Or.inl (tw_16 hw)) Via.refl e4 f5 (g := (mkF m 24 #[.val (.ref c0_a), .val (.ref c1_a), .val (.ref c1_a)] [(.ref c1_a)])) rfl rfl (hb hby d4_24)
  obtain ⟨T6, X6, e6, st6⟩ := getF X5 hx hZ hown (host := "") (Or.inl (tw_16 hw)) Via.refl e5 f6 (g := (mkF m 28 #[.val (.ref c0_a), .val (.ref c1_a), .val (.ref c1_a)] [(.ref c0_a), (.int p1)])) rfl rfl (hb hby d4_28)
  obtain ⟨fs, hr, hrun, hended, hW, hsame⟩ := X6.leave (v := (some (.int 0))) (fun h => by rw [Bd.returns] at h; cases h)
  refine ⟨_, _, castTop (ef4_RR m c0_a c1_a) ?_, hrun, hended, _, _, rfl, ?_, ⟨_, rfl⟩, hW, hsame.mono (by decide) (by decide)⟩
  · show Steps p.tables e below (s₁.setTop (mkF m 0 #[.val (.ref c0_a), .val (.ref c1_a), .unset] [])) _
    refine XS.aloadN X0.here hx rfl (hb hby d4_0) rfl rfl ?_
    show Steps p.tables e below (s₁.setTop (mkF m 1 #[.val (.ref c0_a), .val (.ref c1_a), .unset] [(.ref c1_a)])) _
    refine st1 _ ?_
    refine XS.ifNo X1.here hx rfl (hb hby d4_4) rfl (by decide) ?_
    refine XS.aloadN X1.here hx rfl (hb hby d4_7) rfl rfl ?_
    show Steps p.tables e below (T1.setTop (mkF m 8 #[.val (.ref c0_a), .val (.ref c1_a), .unset] [(.ref c1_a)])) _
    refine st2 _ ?_
    refine XS.astoreN X2.here hx rfl (hb hby d4_11) rfl rfl (l' := #[.val (.ref c0_a), .val (.ref c1_a), .val (.ref c1_a)]) rfl ?_
    refine XS.aloadN X2.here hx rfl (hb hby d4_12) rfl rfl ?_
    show Steps p.tables e below (T2.setTop (mkF m 13 #[.val (.ref c0_a), .val (.ref c1_a), .val (.ref c1_a)] [(.ref c1_a)])) _
    refine st3 _ ?_
    refine XS.aloadN X3.here hx rfl (hb hby d4_16) rfl rfl ?_
    show Steps p.tables e below (T3.setTop (mkF m 17 #[.val (.ref c0_a), .val (.ref c1_a), .val (.ref c1_a)] [(.ref c0_a), (.int p0)])) _
    refine st4 _ ?_
    refine XS.icmpNo X4.here hx rfl (hb hby d4_20) rfl (teq (f4 : p0 = p2)).2 ?_
    refine XS.aloadN X4.here hx rfl (hb hby d4_23) rfl rfl ?_
    show Steps p.tables e below (T4.setTop (mkF m 24 #[.val (.ref c0_a), .val (.ref c1_a), .val (.ref c1_a)] [(.ref c1_a)])) _
    refine st5 _ ?_
    refine XS.aloadN X5.here hx rfl (hb hby d4_27) rfl rfl ?_
    show Steps p.tables e below (T5.setTop (mkF m 28 #[.val (.ref c0_a), .val (.ref c1_a), .val (.ref c1_a)] [(.ref c0_a), (.int p1)])) _
    refine st6 _ ?_
    refine XS.icmpYes X6.here hx rfl (pc0 := 31) (pc' := 38) rfl (hb hby d4_31) rfl (feq (f7 : ¬ (p1 = p3))).2 (by decide) (by decide) ?_
    refine XS.iconst X6.here hx rfl (hb hby d4_38) ?_
    show Steps p.tables e below (T6.setTop (mkF m 39 #[.val (.ref c0_a), .val (.ref c1_a), .val (.ref c1_a)] [(.int 0)])) _
    exact retN X6 hx (t := .boolean) Bd.returns (by simp) (hb hby d4_39) hr
  · show QP (some (.int 0)) h0 n0 _ T6.heap _
    rw [e6]
    exact ⟨rfl, N0, rfl⟩
set_option maxRecDepth 65536 in
set_option maxHeartbeats 40000000 in
theorem rm0_15 (l : Launch) (Z : State) (a0 : Array Value) (hw : ∀ d ∈ tables_1, d.before a0 Z = true) (ws : List Jvm.Cond) (p0 : Int32) (p1 : Int32) (p2 : Int32) (p3 : Int32) (p4 : Int32) (h0 : Heap) (n0 : Nat) (Z0 : n0 ≤ h0.size) (f1 : (p4 &&& (1 : Int32)) = (0 : Int32)) (f2 : (p4 &&& (2 : Int32)) = (0 : Int32)) (f3 : (((p4.toUInt32 >>> ((2 : Int32) &&& 31).toUInt32).toInt32) &&& (3 : Int32)) = (0 : Int32)) (f4 : p2 = p0) (f5 : ¬ (p3 = p1)) (f6 : p0 = p2) (f7 : ¬ (p1 = p3)) :
    MetFree l x (head1 (Jvm.Cond.code x code maxLocals ret :: ws) room_1) (fun a U => a = #[(.int p0), (.int p1), (.int p2), (.int p3), (.int p4)] ∧ Z.Warmed39 U.vm ∧ U.heap = h0) (fun _ _ _ _ _ => True) (fun _ U o U' => ∃ v L, o = .returned v ∧ QT n0 v U'.heap L ∧ FrameEnd U o U' L room_1.cells room_1.slots) := by
  refine MetFree.of_bodySF (plainFor_of_name pn_hexwright_board_HexEqualsPinLaw) hisR ?_
  intro p e s m args below meth c s₁ Bd hml0 hP hK
  obtain ⟨rfl, hZ, hh⟩ := hP
  have hx := Bd.exec
  have hby := Bd.bytes
  have hml : c.maxLocals = 11 := hml0
  have hown : s.vm.findClass "hexwright/board/HexEqualsPinLaw" = some m.cls := findClass_of_methodNamed Bd.named
  have hnm := (name_of_methodNamed Bd.named Bd.method).1
  have X0 : Stand p l e room_1 s m #[(.int p0), (.int p1), (.int p2), (.int p3), (.int p4)] below meth c s₁ [] 0 0 := Stand.of_body Bd
  have e0 : s₁.heap = h0 := by rw [← hh, Bd.state]; rfl
  have N0 := Fr.nil n0
  obtain ⟨T1, h1, X1, e1, E1, A1, D1, -, st1⟩ := newO X0 hx hZ hown (tw_0 hw) (tw_1 hw) (tw_2 hw) e0 (g := (mkF m 36 #[.val (.int p0), .val (.int p1), .val (.int p2), .val (.int p3), .val (.int p4), .val (.int p2), .val (.int p3), .val (.int 0), .unset, .unset, .unset] [])) rfl (hb hby at_36) (by decide) (by decide)
  obtain ⟨b11, g1⟩ : ∃ z, z = h0.size := ⟨_, rfl⟩
  rw [← g1] at A1 D1 st1
  have sz_b11 : h0.size ≤ b11 := Nat.le_trans (Nat.le_refl _) (Nat.le_of_eq g1.symm)
  have g_b11 : n0 ≤ b11 := Nat.le_trans Z0 sz_b11
  have KK1 : Keep h0 h1 [] := (Keep.refl h0 []).ext E1
  have F1_15 : F_0 Z h1 b11 (.int 0) := D1 (Or.inr (tw_15 hw)) (ty := .int) (by decide)
  have F1_17 : F_1 Z h1 b11 (.int 0) := D1 (Or.inr (tw_17 hw)) (ty := .int) (by decide)
  -- pc 42: hexwright/board/Hex.<init>
  obtain ⟨_, _, ⟨T2, L2, k2, n2⟩, -, X2, ⟨Lc2, hQ2, l2, y2, z2⟩, st2⟩ := X1.specialBack hx (y := M_1) rfl hown (mvT hZ (tw_3 hw)) (mvT hZ (tw_4 hw)) (mvT hZ (tw_5 hw)) (by decide) (backOf (W := 1) (rm1_3 l Z a0 hw [] b11 p0 p1 h1 n0 (Nat.le_trans Z0 KK1.1) F1_15 A1 g_b11 F1_17) hZ (tw_5 hw) (tw_2 hw) (by decide) (by decide)) (g := (mkF m 42 #[.val (.int p0), .val (.int p1), .val (.int p2), .val (.int p3), .val (.int p4), .val (.int p2), .val (.int p3), .val (.int 0), .unset, .unset, .unset] [(.int p1), (.int p0), (.ref b11), (.ref b11)])) rfl (by rw [hml]; rfl) (Steps.refl _) (a := b11) (argsL := [(.int p0), (.int p1)]) (rest := [(.ref b11)]) (lenOf pd_1 rfl) rfl (by show 2 * 0 + _ ≤ _; exact Nat.le_of_eq rfl) (hb hby at_42) (fun _ _ => ⟨rfl, e1, (by decide : 1 + 0 ≤ _), (by decide : 2 + 0 ≤ _)⟩)
  dsimp only [Pt.U, Pt.locs, Pt.cells, Pt.slots] at X2 l2 y2 z2 st2 hQ2
  subst l2 y2 z2
  obtain ⟨rfl, Nq2, K2, o2_0, o2_1⟩ := hQ2
  have N2 := Fr.app N0 Nq2
  have KK2 : Keep h0 T2.heap [] := KK1.trans K2 (fun x hx => (List.mem_cons.mp hx).elim (fun q => q ▸ (Or.inr sz_b11)) (fun hx => nomatch hx))
  obtain ⟨T3, h3, X3, e3, E3, A3, D3, -, st3⟩ := newO X2 hx hZ hown (tw_0 hw) (tw_1 hw) (tw_2 hw) rfl (g := (mkF m 47 #[.val (.int p0), .val (.int p1), .val (.int p2), .val (.int p3), .val (.int p4), .val (.int p2), .val (.int p3), .val (.int 0), .val (.ref b11), .unset, .unset] [])) rfl (hb hby at_47) (by decide) (by decide)
  obtain ⟨b12, g3⟩ : ∃ z, z = T2.heap.size := ⟨_, rfl⟩
  rw [← g3] at A3 D3 st3
  have sz_b12 : h0.size ≤ b12 := Nat.le_trans KK2.1 (Nat.le_of_eq g3.symm)
  have g_b12 : n0 ≤ b12 := Nat.le_trans Z0 sz_b12
  have KK3 : Keep h0 h3 [] := KK2.ext E3
  have F3_15 : F_0 Z h3 b12 (.int 0) := D3 (Or.inr (tw_15 hw)) (ty := .int) (by decide)
  have F3_17 : F_1 Z h3 b12 (.int 0) := D3 (Or.inr (tw_17 hw)) (ty := .int) (by decide)
  -- pc 55: hexwright/board/Hex.<init>
  obtain ⟨_, _, ⟨T4, L4, k4, n4⟩, -, X4, ⟨Lc4, hQ4, l4, y4, z4⟩, st4⟩ := X3.specialBack hx (y := M_1) rfl hown (mvT hZ (tw_3 hw)) (mvT hZ (tw_4 hw)) (mvT hZ (tw_5 hw)) (by decide) (backOf (W := 1) (rm1_6 l Z a0 hw [] b12 p2 p3 h3 n0 (Nat.le_trans Z0 KK3.1) F3_15 A3 g_b12 F3_17) hZ (tw_5 hw) (tw_2 hw) (by decide) (by decide)) (g := (mkF m 55 #[.val (.int p0), .val (.int p1), .val (.int p2), .val (.int p3), .val (.int p4), .val (.int p2), .val (.int p3), .val (.int 0), .val (.ref b11), .unset, .unset] [(.int p3), (.int p2), (.ref b12), (.ref b12)])) rfl (by rw [hml]; rfl) (Steps.refl _) (a := b12) (argsL := [(.int p2), (.int p3)]) (rest := [(.ref b12)]) (lenOf pd_1 rfl) rfl (by show 2 * 0 + _ ≤ _; exact Nat.le_of_eq rfl) (hb hby at_55) (fun _ _ => ⟨rfl, e3, (by decide : 2 + 0 ≤ _), (by decide : 4 + 0 ≤ _)⟩)
  dsimp only [Pt.U, Pt.locs, Pt.cells, Pt.slots] at X4 l4 y4 z4 st4 hQ4
  subst l4 y4 z4
  obtain ⟨rfl, Nq4, K4, o4_0, o4_1⟩ := hQ4
  have N4 := Fr.app N2 Nq4
  have KK4 : Keep h0 T4.heap [] := KK3.trans K4 (fun x hx => (List.mem_cons.mp hx).elim (fun q => q ▸ (Or.inr sz_b12)) (fun hx => nomatch hx))
  -- pc 88: hexwright/board/Hex.equals
  have u5 : E_1 Z T4.heap b12 := Exa.keep A3 K4
  have u6 : F_0 Z h3 b11 (.int p0) := Fld.ext E3 o2_0
  have u7 : E_1 Z T2.heap b11 := Exa.keep A1 K2
  have ne8 : b11 ≠ b12 := Nat.ne_of_lt (Nat.lt_of_lt_of_le (Exa.lt u7) (Nat.le_of_eq g3.symm))
  have u9 : F_0 Z T4.heap b11 (.int p0) := Fld.keep u6 K4 (own_notin ne8 List.not_mem_nil)
  have u10 : F_1 Z h3 b11 (.int p1) := Fld.ext E3 o2_1
  have u11 : F_1 Z T4.heap b11 (.int p1) := Fld.keep u10 K4 (own_notin ne8 List.not_mem_nil)
  have u13 : E_1 Z h3 b11 := Exa.ext E3 u7
  have u14 : E_1 Z T4.heap b11 := Exa.keep u13 K4
  obtain ⟨cq12, kq12, q12a, q12b, q12c⟩ := isOf hZ rfl u14
  obtain ⟨_, _, ⟨T12, L12, k12, n12⟩, -, X12, ⟨Lc12, hQ12, l12, y12, z12⟩, st12⟩ := X4.virtualBack hx (y := M_2) (z := M_2) hown (mvT hZ (tw_18 hw)) (mvT hZ (tw_19 hw)) (notFace_of_selects (args := #[]) (mvT hZ (tw_21 hw))) (mvT hZ (tw_21 hw)) (mvT hZ (tw_20 hw)) (by decide) (backOf (W := 0) (rm4_13 l Z a0 hw [] b11 b12 p2 p0 p3 p1 T4.heap n0 (Nat.le_trans Z0 KK4.1) u5 o4_0 u9 f4 o4_1 u11 f5) hZ (tw_22 hw) (tw_2 hw) (by decide) (by decide)) q12a q12c (g := (mkF m 88 #[.val (.int p0), .val (.int p1), .val (.int p2), .val (.int p3), .val (.int p4), .val (.int p2), .val (.int p3), .val (.int 0), .val (.ref b11), .val (.ref b12), .val (.int 0)] [(.ref b12), (.ref b11)])) rfl (by rw [hml]; rfl) (Steps.refl _) (argsL := [(.ref b12)]) (rest := []) (lenOf pd_2 rfl) rfl (by show 2 * 0 + _ ≤ _; exact Nat.le_of_eq rfl) (hb hby at_88) (fun _ _ => ⟨rfl, rfl, (by decide : 2 + 0 ≤ _), (by decide : 4 + 0 ≤ _)⟩)
  dsimp only [Pt.U, Pt.locs, Pt.cells, Pt.slots] at X12 l12 y12 z12 st12 hQ12
  subst l12 y12 z12
  obtain ⟨rfl, Nq12, e12⟩ := hQ12
  have N12 := Fr.app N4 Nq12
  -- pc 100: hexwright/board/Hex.equals
  obtain ⟨cq15, kq15, q15a, q15b, q15c⟩ := isOf hZ e12 u5
  obtain ⟨_, _, ⟨T15, L15, k15, n15⟩, -, X15, ⟨Lc15, hQ15, l15, y15, z15⟩, st15⟩ := X12.virtualBack hx (y := M_2) (z := M_2) hown (mvT hZ (tw_18 hw)) (mvT hZ (tw_19 hw)) (notFace_of_selects (args := #[]) (mvT hZ (tw_21 hw))) (mvT hZ (tw_21 hw)) (mvT hZ (tw_20 hw)) (by decide) (backOf (W := 0) (rm4_14 l Z a0 hw [] b12 b11 p0 p2 p1 p3 T4.heap n0 (Nat.le_trans Z0 KK4.1) u14 u9 o4_0 f6 u11 o4_1 f7) hZ (tw_22 hw) (tw_2 hw) (by decide) (by decide)) q15a q15c (g := (mkF m 100 #[.val (.int p0), .val (.int p1), .val (.int p2), .val (.int p3), .val (.int p4), .val (.int p2), .val (.int p3), .val (.int 0), .val (.ref b11), .val (.ref b12), .val (.int 0)] [(.ref b11), (.ref b12)])) rfl (by rw [hml]; rfl) (Steps.refl _) (argsL := [(.ref b11)]) (rest := []) (lenOf pd_2 rfl) rfl (by show 2 * 0 + _ ≤ _; exact Nat.le_of_eq rfl) (hb hby at_100) (fun _ _ => ⟨rfl, e12, (by decide : 2 + 0 ≤ _), (by decide : 4 + 0 ≤ _)⟩)
  dsimp only [Pt.U, Pt.locs, Pt.cells, Pt.slots] at X15 l15 y15 z15 st15 hQ15
  subst l15 y15 z15
  obtain ⟨rfl, Nq15, e15⟩ := hQ15
  have N15 := Fr.app N12 Nq15
  obtain ⟨fs, hr, hrun, hended, hW, hsame⟩ := X15.leave (v := (some (.int 1))) (fun h => by rw [Bd.returns] at h; cases h)
  refine ⟨_, _, castTop (ef0_IIIII m p0 p1 p2 p3 p4) ?_, hrun, hended, _, _, rfl, ?_, ⟨_, rfl⟩, hW, hsame.mono (by decide) (by decide)⟩
  · show Steps p.tables e below (s₁.setTop (mkF m 0 #[.val (.int p0), .val (.int p1), .val (.int p2), .val (.int p3), .val (.int p4), .unset, .unset, .unset, .unset, .unset, .unset] [])) _
    refine XS.iload X0.here hx rfl (hb hby at_0) rfl ?_
    refine XS.iconst X0.here hx rfl (hb hby at_2) ?_
    show Steps p.tables e below (s₁.setTop (mkF m 3 #[.val (.int p0), .val (.int p1), .val (.int p2), .val (.int p3), .val (.int p4), .unset, .unset, .unset, .unset, .unset, .unset] [(.int 1), (.int p4)])) _
    refine XS.iand X0.here hx rfl (hb hby at_3) rfl ?_
    refine XS.ifYes X0.here hx rfl (pc0 := 4) (pc' := 11) rfl (hb hby at_4) rfl ((if0 _ _).trans (teq (f1 : (p4 &&& (1 : Int32)) = (0 : Int32))).1) (by decide) (by decide) ?_
    refine XS.iloadN X0.here hx rfl (hb hby at_11) rfl ?_
    refine XS.istore X0.here hx rfl (hb hby at_12) rfl (l' := #[.val (.int p0), .val (.int p1), .val (.int p2), .val (.int p3), .val (.int p4), .val (.int p2), .unset, .unset, .unset, .unset, .unset]) rfl ?_
    refine XS.iload X0.here hx rfl (hb hby at_14) rfl ?_
    show Steps p.tables e below (s₁.setTop (mkF m 16 #[.val (.int p0), .val (.int p1), .val (.int p2), .val (.int p3), .val (.int p4), .val (.int p2), .unset, .unset, .unset, .unset, .unset] [(.int p4)])) _
    refine XS.iconst X0.here hx rfl (hb hby at_16) ?_
    show Steps p.tables e below (s₁.setTop (mkF m 17 #[.val (.int p0), .val (.int p1), .val (.int p2), .val (.int p3), .val (.int p4), .val (.int p2), .unset, .unset, .unset, .unset, .unset] [(.int 2), (.int p4)])) _
    refine XS.iand X0.here hx rfl (hb hby at_17) rfl ?_
    refine XS.ifYes X0.here hx rfl (pc0 := 18) (pc' := 25) rfl (hb hby at_18) rfl ((if0 _ _).trans (teq (f2 : (p4 &&& (2 : Int32)) = (0 : Int32))).1) (by decide) (by decide) ?_
    refine XS.iloadN X0.here hx rfl (hb hby at_25) rfl ?_
    refine XS.istore X0.here hx rfl (hb hby at_26) rfl (l' := #[.val (.int p0), .val (.int p1), .val (.int p2), .val (.int p3), .val (.int p4), .val (.int p2), .val (.int p3), .unset, .unset, .unset, .unset]) rfl ?_
    refine XS.iload X0.here hx rfl (hb hby at_28) rfl ?_
    show Steps p.tables e below (s₁.setTop (mkF m 30 #[.val (.int p0), .val (.int p1), .val (.int p2), .val (.int p3), .val (.int p4), .val (.int p2), .val (.int p3), .unset, .unset, .unset, .unset] [(.int p4)])) _
    refine XS.iconst X0.here hx rfl (hb hby at_30) ?_
    show Steps p.tables e below (s₁.setTop (mkF m 31 #[.val (.int p0), .val (.int p1), .val (.int p2), .val (.int p3), .val (.int p4), .val (.int p2), .val (.int p3), .unset, .unset, .unset, .unset] [(.int 2), (.int p4)])) _
    refine XS.iushr X0.here hx rfl (hb hby at_31) rfl ?_
    refine XS.iconst X0.here hx rfl (hb hby at_32) ?_
    show Steps p.tables e below (s₁.setTop (mkF m 33 #[.val (.int p0), .val (.int p1), .val (.int p2), .val (.int p3), .val (.int p4), .val (.int p2), .val (.int p3), .unset, .unset, .unset, .unset] [(.int 3), (.int ((p4.toUInt32 >>> ((2 : Int32) &&& 31).toUInt32).toInt32))])) _
    refine XS.iand X0.here hx rfl (hb hby at_33) rfl ?_
    show Steps p.tables e below (s₁.setTop (mkF m 34 #[.val (.int p0), .val (.int p1), .val (.int p2), .val (.int p3), .val (.int p4), .val (.int p2), .val (.int p3), .unset, .unset, .unset, .unset] [(.int (((p4.toUInt32 >>> ((2 : Int32) &&& 31).toUInt32).toInt32) &&& (3 : Int32)))])) _
    rw [f3]
    refine XS.istore X0.here hx rfl (hb hby at_34) rfl (l' := #[.val (.int p0), .val (.int p1), .val (.int p2), .val (.int p3), .val (.int p4), .val (.int p2), .val (.int p3), .val (.int 0), .unset, .unset, .unset]) rfl ?_
    show Steps p.tables e below (s₁.setTop (mkF m 36 #[.val (.int p0), .val (.int p1), .val (.int p2), .val (.int p3), .val (.int p4), .val (.int p2), .val (.int p3), .val (.int 0), .unset, .unset, .unset] [])) _
    refine st1 _ ?_
    refine XS.dup X1.here hx rfl (hb hby at_39) rfl rfl ?_
    refine XS.iloadN X1.here hx rfl (hb hby at_40) rfl ?_
    refine XS.iloadN X1.here hx rfl (hb hby at_41) rfl ?_
    show Steps p.tables e below (T1.setTop (mkF m 42 #[.val (.int p0), .val (.int p1), .val (.int p2), .val (.int p3), .val (.int p4), .val (.int p2), .val (.int p3), .val (.int 0), .unset, .unset, .unset] [(.int p1), (.int p0), (.ref b11), (.ref b11)])) _
    refine st2.trans ?_
    refine XS.astore X2.here hx rfl (hb hby at_45) rfl rfl (l' := #[.val (.int p0), .val (.int p1), .val (.int p2), .val (.int p3), .val (.int p4), .val (.int p2), .val (.int p3), .val (.int 0), .val (.ref b11), .unset, .unset]) rfl ?_
    show Steps p.tables e below (T2.setTop (mkF m 47 #[.val (.int p0), .val (.int p1), .val (.int p2), .val (.int p3), .val (.int p4), .val (.int p2), .val (.int p3), .val (.int 0), .val (.ref b11), .unset, .unset] [])) _
    refine st3 _ ?_
    refine XS.dup X3.here hx rfl (hb hby at_50) rfl rfl ?_
    refine XS.iload X3.here hx rfl (hb hby at_51) rfl ?_
    refine XS.iload X3.here hx rfl (hb hby at_53) rfl ?_
    show Steps p.tables e below (T3.setTop (mkF m 55 #[.val (.int p0), .val (.int p1), .val (.int p2), .val (.int p3), .val (.int p4), .val (.int p2), .val (.int p3), .val (.int 0), .val (.ref b11), .unset, .unset] [(.int p3), (.int p2), (.ref b12), (.ref b12)])) _
    refine st4.trans ?_
    refine XS.astore X4.here hx rfl (hb hby at_58) rfl rfl (l' := #[.val (.int p0), .val (.int p1), .val (.int p2), .val (.int p3), .val (.int p4), .val (.int p2), .val (.int p3), .val (.int 0), .val (.ref b11), .val (.ref b12), .unset]) rfl ?_
    refine XS.iload X4.here hx rfl (hb hby at_60) rfl ?_
    refine XS.ifNo X4.here hx rfl (hb hby at_62) rfl (by decide) ?_
    refine XS.iload X4.here hx rfl (hb hby at_65) rfl ?_
    show Steps p.tables e below (T4.setTop (mkF m 67 #[.val (.int p0), .val (.int p1), .val (.int p2), .val (.int p3), .val (.int p4), .val (.int p2), .val (.int p3), .val (.int 0), .val (.ref b11), .val (.ref b12), .unset] [(.int p2)])) _
    refine XS.iloadN X4.here hx rfl (hb hby at_67) rfl ?_
    refine XS.icmpNo X4.here hx rfl (hb hby at_68) rfl (teq (f4 : p2 = p0)).2 ?_
    refine XS.iload X4.here hx rfl (hb hby at_71) rfl ?_
    refine XS.iloadN X4.here hx rfl (hb hby at_73) rfl ?_
    refine XS.icmpYes X4.here hx rfl (pc0 := 74) (pc' := 81) rfl (hb hby at_74) rfl (feq (f5 : ¬ (p3 = p1))).2 (by decide) (by decide) ?_
    show Steps p.tables e below (T4.setTop (mkF m 81 #[.val (.int p0), .val (.int p1), .val (.int p2), .val (.int p3), .val (.int p4), .val (.int p2), .val (.int p3), .val (.int 0), .val (.ref b11), .val (.ref b12), .unset] [])) _
    refine XS.iconst X4.here hx rfl (hb hby at_81) ?_
    refine XS.istore X4.here hx rfl (hb hby at_82) rfl (l' := #[.val (.int p0), .val (.int p1), .val (.int p2), .val (.int p3), .val (.int p4), .val (.int p2), .val (.int p3), .val (.int 0), .val (.ref b11), .val (.ref b12), .val (.int 0)]) rfl ?_
    refine XS.aload X4.here hx rfl (hb hby at_84) rfl rfl ?_
    refine XS.aload X4.here hx rfl (hb hby at_86) rfl rfl ?_
    show Steps p.tables e below (T4.setTop (mkF m 88 #[.val (.int p0), .val (.int p1), .val (.int p2), .val (.int p3), .val (.int p4), .val (.int p2), .val (.int p3), .val (.int 0), .val (.ref b11), .val (.ref b12), .val (.int 0)] [(.ref b12), (.ref b11)])) _
    refine st12.trans ?_
    refine XS.iload X12.here hx rfl (hb hby at_91) rfl ?_
    refine XS.icmpNo X12.here hx rfl (hb hby at_93) rfl (by decide) ?_
    refine XS.aload X12.here hx rfl (hb hby at_96) rfl rfl ?_
    refine XS.aload X12.here hx rfl (hb hby at_98) rfl rfl ?_
    show Steps p.tables e below (T12.setTop (mkF m 100 #[.val (.int p0), .val (.int p1), .val (.int p2), .val (.int p3), .val (.int p4), .val (.int p2), .val (.int p3), .val (.int 0), .val (.ref b11), .val (.ref b12), .val (.int 0)] [(.ref b11), (.ref b12)])) _
    refine st15.trans ?_
    refine XS.iload X15.here hx rfl (hb hby at_103) rfl ?_
    refine XS.icmpNo X15.here hx rfl (hb hby at_105) rfl (by decide) ?_
    refine XS.iconst X15.here hx rfl (hb hby at_108) ?_
    refine XS.goto X15.here hx rfl (pc0 := 109) (pc' := 113) rfl (hb hby at_109) (by decide) (by decide) ?_
    show Steps p.tables e below (T15.setTop (mkF m 113 #[.val (.int p0), .val (.int p1), .val (.int p2), .val (.int p3), .val (.int p4), .val (.int p2), .val (.int p3), .val (.int 0), .val (.ref b11), .val (.ref b12), .val (.int 0)] [(.int 1)])) _
    exact retN X15 hx (t := .boolean) Bd.returns (by simp) (hb hby at_113) hr
  · show QT n0 _ T15.heap _
    rw [e15]
    exact ⟨rfl, N15⟩
set_option maxRecDepth 65536 in
set_option maxHeartbeats 40000000 in
theorem rm4_18 (l : Launch) (Z : State) (a0 : Array Value) (hw : ∀ d ∈ tables_1, d.before a0 Z = true) (ws : List Jvm.Cond) (c0_a : Addr) (c1_a : Addr) (p2 : Int32) (p0 : Int32) (h0 : Heap) (n0 : Nat) (Z0 : n0 ≤ h0.size) (f1 : E_1 Z h0 c1_a) (f2 : F_0 Z h0 c1_a (.int p2)) (f3 : F_0 Z h0 c0_a (.int p0)) (f4 : ¬ (p2 = p0)) :
    MetFree l M_2 (head1 (Jvm.Cond.code M_2 prog_3_method_4_code 3 (some .boolean) :: ws) R_0_0_0_0) (fun a U => a = #[(.ref c0_a), (.ref c1_a)] ∧ Z.Warmed39 U.vm ∧ U.heap = h0) (fun _ _ _ _ _ => True) (fun _ U o U' => ∃ v L, o = .returned v ∧ QP (some (.int 0)) h0 n0 v U'.heap L ∧ FrameEnd U o U' L R_0_0_0_0.cells R_0_0_0_0.slots) := by
  refine MetFree.of_bodySF (plainFor_of_name pn_hexwright_board_Hex) hisR ?_
  intro p e s m args below meth c s₁ Bd hml0 hP hK
  obtain ⟨rfl, hZ, hh⟩ := hP
  have hx := Bd.exec
  have hby := Bd.bytes
  have hml : c.maxLocals = 3 := hml0
  have hown : s.vm.findClass "hexwright/board/Hex" = some m.cls := findClass_of_methodNamed Bd.named
  have hnm := (name_of_methodNamed Bd.named Bd.method).1
  have X0 : Stand p l e R_0_0_0_0 s m #[(.ref c0_a), (.ref c1_a)] below meth c s₁ [] 0 0 := Stand.of_body Bd
  have e0 : s₁.heap = h0 := by rw [← hh, Bd.state]; rfl
  have N0 := Fr.nil n0
  obtain ⟨T1, X1, e1, st1⟩ := instY X0 hx hZ hown (tw_23 hw) e0 (Ins.self f1) (g := (mkF m 1 #[.val (.ref c0_a), .val (.ref c1_a), .unset] [(.ref c1_a)])) rfl rfl (hb hby d4_1)
  obtain ⟨T2, X2, e2, st2⟩ := castY X1 hx hZ hown (tw_23 hw) e1 (Ins.self f1) (g := (mkF m 8 #[.val (.ref c0_a), .val (.ref c1_a), .unset] [(.ref c1_a)])) rfl rfl (hb hby d4_8)
  obtain ⟨T3, X3, e3, st3⟩ := getF X2 hx hZ hown (host := "") (Or.inl (tw_14 hw)) Via.refl e2 f2 (g := (mkF m 13 #[.val (.ref c0_a), .val (.ref c1_a), .val (.ref c1_a)] [(.ref c1_a)])) rfl rfl (hb hby d4_13)
  obtain ⟨T4, X4, e4, st4⟩ := getF X3 hx hZ hown (host := "") (Or.inl (tw_14 hw)) Via.refl e3 f3 (g := (mkF m 17 #[.val (.ref c0_a), .val (.ref c1_a), .val (.ref c1_a)] [(.ref c0_a), (.int p2)])) rfl rfl (hb hby d4_17)
  obtain ⟨fs, hr, hrun, hended, hW, hsame⟩ := X4.leave (v := (some (.int 0))) (fun h => by rw [Bd.returns] at h; cases h)
  refine ⟨_, _, castTop (ef4_RR m c0_a c1_a) ?_, hrun, hended, _, _, rfl, ?_, ⟨_, rfl⟩, hW, hsame.mono (by decide) (by decide)⟩
  · show Steps p.tables e below (s₁.setTop (mkF m 0 #[.val (.ref c0_a), .val (.ref c1_a), .unset] [])) _
    refine XS.aloadN X0.here hx rfl (hb hby d4_0) rfl rfl ?_
    show Steps p.tables e below (s₁.setTop (mkF m 1 #[.val (.ref c0_a), .val (.ref c1_a), .unset] [(.ref c1_a)])) _
    refine st1 _ ?_
    refine XS.ifNo X1.here hx rfl (hb hby d4_4) rfl (by decide) ?_
    refine XS.aloadN X1.here hx rfl (hb hby d4_7) rfl rfl ?_
    show Steps p.tables e below (T1.setTop (mkF m 8 #[.val (.ref c0_a), .val (.ref c1_a), .unset] [(.ref c1_a)])) _
    refine st2 _ ?_
    refine XS.astoreN X2.here hx rfl (hb hby d4_11) rfl rfl (l' := #[.val (.ref c0_a), .val (.ref c1_a), .val (.ref c1_a)]) rfl ?_
    refine XS.aloadN X2.here hx rfl (hb hby d4_12) rfl rfl ?_
    show Steps p.tables e below (T2.setTop (mkF m 13 #[.val (.ref c0_a), .val (.ref c1_a), .val (.ref c1_a)] [(.ref c1_a)])) _
    refine st3 _ ?_
    refine XS.aloadN X3.here hx rfl (hb hby d4_16) rfl rfl ?_
    show Steps p.tables e below (T3.setTop (mkF m 17 #[.val (.ref c0_a), .val (.ref c1_a), .val (.ref c1_a)] [(.ref c0_a), (.int p2)])) _
    refine st4 _ ?_
    refine XS.icmpYes X4.here hx rfl (pc0 := 20) (pc' := 38) rfl (hb hby d4_20) rfl (feq (f4 : ¬ (p2 = p0))).2 (by decide) (by decide) ?_
    refine XS.iconst X4.here hx rfl (hb hby d4_38) ?_
    show Steps p.tables e below (T4.setTop (mkF m 39 #[.val (.ref c0_a), .val (.ref c1_a), .val (.ref c1_a)] [(.int 0)])) _
    exact retN X4 hx (t := .boolean) Bd.returns (by simp) (hb hby d4_39) hr
  · show QP (some (.int 0)) h0 n0 _ T4.heap _
    rw [e4]
    exact ⟨rfl, N0, rfl⟩
set_option maxRecDepth 65536 in
set_option maxHeartbeats 40000000 in
theorem rm4_19 (l : Launch) (Z : State) (a0 : Array Value) (hw : ∀ d ∈ tables_1, d.before a0 Z = true) (ws : List Jvm.Cond) (c0_a : Addr) (c1_a : Addr) (p0 : Int32) (p2 : Int32) (h0 : Heap) (n0 : Nat) (Z0 : n0 ≤ h0.size) (f1 : E_1 Z h0 c1_a) (f2 : F_0 Z h0 c1_a (.int p0)) (f3 : F_0 Z h0 c0_a (.int p2)) (f4 : ¬ (p0 = p2)) :
    MetFree l M_2 (head1 (Jvm.Cond.code M_2 prog_3_method_4_code 3 (some .boolean) :: ws) R_0_0_0_0) (fun a U => a = #[(.ref c0_a), (.ref c1_a)] ∧ Z.Warmed39 U.vm ∧ U.heap = h0) (fun _ _ _ _ _ => True) (fun _ U o U' => ∃ v L, o = .returned v ∧ QP (some (.int 0)) h0 n0 v U'.heap L ∧ FrameEnd U o U' L R_0_0_0_0.cells R_0_0_0_0.slots) := by
  refine MetFree.of_bodySF (plainFor_of_name pn_hexwright_board_Hex) hisR ?_
  intro p e s m args below meth c s₁ Bd hml0 hP hK
  obtain ⟨rfl, hZ, hh⟩ := hP
  have hx := Bd.exec
  have hby := Bd.bytes
  have hml : c.maxLocals = 3 := hml0
  have hown : s.vm.findClass "hexwright/board/Hex" = some m.cls := findClass_of_methodNamed Bd.named
  have hnm := (name_of_methodNamed Bd.named Bd.method).1
  have X0 : Stand p l e R_0_0_0_0 s m #[(.ref c0_a), (.ref c1_a)] below meth c s₁ [] 0 0 := Stand.of_body Bd
  have e0 : s₁.heap = h0 := by rw [← hh, Bd.state]; rfl
  have N0 := Fr.nil n0
  obtain ⟨T1, X1, e1, st1⟩ := instY X0 hx hZ hown (tw_23 hw) e0 (Ins.self f1) (g := (mkF m 1 #[.val (.ref c0_a), .val (.ref c1_a), .unset] [(.ref c1_a)])) rfl rfl (hb hby d4_1)
  obtain ⟨T2, X2, e2, st2⟩ := castY X1 hx hZ hown (tw_23 hw) e1 (Ins.self f1) (g := (mkF m 8 #[.val (.ref c0_a), .val (.ref c1_a), .unset] [(.ref c1_a)])) rfl rfl (hb hby d4_8)
  obtain ⟨T3, X3, e3, st3⟩ := getF X2 hx hZ hown (host := "") (Or.inl (tw_14 hw)) Via.refl e2 f2 (g := (mkF m 13 #[.val (.ref c0_a), .val (.ref c1_a), .val (.ref c1_a)] [(.ref c1_a)])) rfl rfl (hb hby d4_13)
  obtain ⟨T4, X4, e4, st4⟩ := getF X3 hx hZ hown (host := "") (Or.inl (tw_14 hw)) Via.refl e3 f3 (g := (mkF m 17 #[.val (.ref c0_a), .val (.ref c1_a), .val (.ref c1_a)] [(.ref c0_a), (.int p0)])) rfl rfl (hb hby d4_17)
  obtain ⟨fs, hr, hrun, hended, hW, hsame⟩ := X4.leave (v := (some (.int 0))) (fun h => by rw [Bd.returns] at h; cases h)
  refine ⟨_, _, castTop (ef4_RR m c0_a c1_a) ?_, hrun, hended, _, _, rfl, ?_, ⟨_, rfl⟩, hW, hsame.mono (by decide) (by decide)⟩
  · show Steps p.tables e below (s₁.setTop (mkF m 0 #[.val (.ref c0_a), .val (.ref c1_a), .unset] [])) _
    refine XS.aloadN X0.here hx rfl (hb hby d4_0) rfl rfl ?_
    show Steps p.tables e below (s₁.setTop (mkF m 1 #[.val (.ref c0_a), .val (.ref c1_a), .unset] [(.ref c1_a)])) _
    refine st1 _ ?_
    refine XS.ifNo X1.here hx rfl (hb hby d4_4) rfl (by decide) ?_
    refine XS.aloadN X1.here hx rfl (hb hby d4_7) rfl rfl ?_
    show Steps p.tables e below (T1.setTop (mkF m 8 #[.val (.ref c0_a), .val (.ref c1_a), .unset] [(.ref c1_a)])) _
    refine st2 _ ?_
    refine XS.astoreN X2.here hx rfl (hb hby d4_11) rfl rfl (l' := #[.val (.ref c0_a), .val (.ref c1_a), .val (.ref c1_a)]) rfl ?_
    refine XS.aloadN X2.here hx rfl (hb hby d4_12) rfl rfl ?_
    show Steps p.tables e below (T2.setTop (mkF m 13 #[.val (.ref c0_a), .val (.ref c1_a), .val (.ref c1_a)] [(.ref c1_a)])) _
    refine st3 _ ?_
    refine XS.aloadN X3.here hx rfl (hb hby d4_16) rfl rfl ?_
    show Steps p.tables e below (T3.setTop (mkF m 17 #[.val (.ref c0_a), .val (.ref c1_a), .val (.ref c1_a)] [(.ref c0_a), (.int p0)])) _
    refine st4 _ ?_
    refine XS.icmpYes X4.here hx rfl (pc0 := 20) (pc' := 38) rfl (hb hby d4_20) rfl (feq (f4 : ¬ (p0 = p2))).2 (by decide) (by decide) ?_
    refine XS.iconst X4.here hx rfl (hb hby d4_38) ?_
    show Steps p.tables e below (T4.setTop (mkF m 39 #[.val (.ref c0_a), .val (.ref c1_a), .val (.ref c1_a)] [(.int 0)])) _
    exact retN X4 hx (t := .boolean) Bd.returns (by simp) (hb hby d4_39) hr
  · show QP (some (.int 0)) h0 n0 _ T4.heap _
    rw [e4]
    exact ⟨rfl, N0, rfl⟩
set_option maxRecDepth 65536 in
set_option maxHeartbeats 40000000 in
theorem rm0_20 (l : Launch) (Z : State) (a0 : Array Value) (hw : ∀ d ∈ tables_1, d.before a0 Z = true) (ws : List Jvm.Cond) (p0 : Int32) (p1 : Int32) (p2 : Int32) (p3 : Int32) (p4 : Int32) (h0 : Heap) (n0 : Nat) (Z0 : n0 ≤ h0.size) (f1 : (p4 &&& (1 : Int32)) = (0 : Int32)) (f2 : (p4 &&& (2 : Int32)) = (0 : Int32)) (f3 : (((p4.toUInt32 >>> ((2 : Int32) &&& 31).toUInt32).toInt32) &&& (3 : Int32)) = (0 : Int32)) (f4 : ¬ (p2 = p0)) (f5 : ¬ (p0 = p2)) :
    MetFree l x (head1 (Jvm.Cond.code x code maxLocals ret :: ws) room_1) (fun a U => a = #[(.int p0), (.int p1), (.int p2), (.int p3), (.int p4)] ∧ Z.Warmed39 U.vm ∧ U.heap = h0) (fun _ _ _ _ _ => True) (fun _ U o U' => ∃ v L, o = .returned v ∧ QT n0 v U'.heap L ∧ FrameEnd U o U' L room_1.cells room_1.slots) := by
  refine MetFree.of_bodySF (plainFor_of_name pn_hexwright_board_HexEqualsPinLaw) hisR ?_
  intro p e s m args below meth c s₁ Bd hml0 hP hK
  obtain ⟨rfl, hZ, hh⟩ := hP
  have hx := Bd.exec
  have hby := Bd.bytes
  have hml : c.maxLocals = 11 := hml0
  have hown : s.vm.findClass "hexwright/board/HexEqualsPinLaw" = some m.cls := findClass_of_methodNamed Bd.named
  have hnm := (name_of_methodNamed Bd.named Bd.method).1
  have X0 : Stand p l e room_1 s m #[(.int p0), (.int p1), (.int p2), (.int p3), (.int p4)] below meth c s₁ [] 0 0 := Stand.of_body Bd
  have e0 : s₁.heap = h0 := by rw [← hh, Bd.state]; rfl
  have N0 := Fr.nil n0
  obtain ⟨T1, h1, X1, e1, E1, A1, D1, -, st1⟩ := newO X0 hx hZ hown (tw_0 hw) (tw_1 hw) (tw_2 hw) e0 (g := (mkF m 36 #[.val (.int p0), .val (.int p1), .val (.int p2), .val (.int p3), .val (.int p4), .val (.int p2), .val (.int p3), .val (.int 0), .unset, .unset, .unset] [])) rfl (hb hby at_36) (by decide) (by decide)
  obtain ⟨b16, g1⟩ : ∃ z, z = h0.size := ⟨_, rfl⟩
  rw [← g1] at A1 D1 st1
  have sz_b16 : h0.size ≤ b16 := Nat.le_trans (Nat.le_refl _) (Nat.le_of_eq g1.symm)
  have g_b16 : n0 ≤ b16 := Nat.le_trans Z0 sz_b16
  have KK1 : Keep h0 h1 [] := (Keep.refl h0 []).ext E1
  have F1_15 : F_0 Z h1 b16 (.int 0) := D1 (Or.inr (tw_15 hw)) (ty := .int) (by decide)
  have F1_17 : F_1 Z h1 b16 (.int 0) := D1 (Or.inr (tw_17 hw)) (ty := .int) (by decide)
  -- pc 42: hexwright/board/Hex.<init>
  obtain ⟨_, _, ⟨T2, L2, k2, n2⟩, -, X2, ⟨Lc2, hQ2, l2, y2, z2⟩, st2⟩ := X1.specialBack hx (y := M_1) rfl hown (mvT hZ (tw_3 hw)) (mvT hZ (tw_4 hw)) (mvT hZ (tw_5 hw)) (by decide) (backOf (W := 1) (rm1_3 l Z a0 hw [] b16 p0 p1 h1 n0 (Nat.le_trans Z0 KK1.1) F1_15 A1 g_b16 F1_17) hZ (tw_5 hw) (tw_2 hw) (by decide) (by decide)) (g := (mkF m 42 #[.val (.int p0), .val (.int p1), .val (.int p2), .val (.int p3), .val (.int p4), .val (.int p2), .val (.int p3), .val (.int 0), .unset, .unset, .unset] [(.int p1), (.int p0), (.ref b16), (.ref b16)])) rfl (by rw [hml]; rfl) (Steps.refl _) (a := b16) (argsL := [(.int p0), (.int p1)]) (rest := [(.ref b16)]) (lenOf pd_1 rfl) rfl (by show 2 * 0 + _ ≤ _; exact Nat.le_of_eq rfl) (hb hby at_42) (fun _ _ => ⟨rfl, e1, (by decide : 1 + 0 ≤ _), (by decide : 2 + 0 ≤ _)⟩)
  dsimp only [Pt.U, Pt.locs, Pt.cells, Pt.slots] at X2 l2 y2 z2 st2 hQ2
  subst l2 y2 z2
  obtain ⟨rfl, Nq2, K2, o2_0, o2_1⟩ := hQ2
  have N2 := Fr.app N0 Nq2
  have KK2 : Keep h0 T2.heap [] := KK1.trans K2 (fun x hx => (List.mem_cons.mp hx).elim (fun q => q ▸ (Or.inr sz_b16)) (fun hx => nomatch hx))
  obtain ⟨T3, h3, X3, e3, E3, A3, D3, -, st3⟩ := newO X2 hx hZ hown (tw_0 hw) (tw_1 hw) (tw_2 hw) rfl (g := (mkF m 47 #[.val (.int p0), .val (.int p1), .val (.int p2), .val (.int p3), .val (.int p4), .val (.int p2), .val (.int p3), .val (.int 0), .val (.ref b16), .unset, .unset] [])) rfl (hb hby at_47) (by decide) (by decide)
  obtain ⟨b17, g3⟩ : ∃ z, z = T2.heap.size := ⟨_, rfl⟩
  rw [← g3] at A3 D3 st3
  have sz_b17 : h0.size ≤ b17 := Nat.le_trans KK2.1 (Nat.le_of_eq g3.symm)
  have g_b17 : n0 ≤ b17 := Nat.le_trans Z0 sz_b17
  have KK3 : Keep h0 h3 [] := KK2.ext E3
  have F3_15 : F_0 Z h3 b17 (.int 0) := D3 (Or.inr (tw_15 hw)) (ty := .int) (by decide)
  have F3_17 : F_1 Z h3 b17 (.int 0) := D3 (Or.inr (tw_17 hw)) (ty := .int) (by decide)
  -- pc 55: hexwright/board/Hex.<init>
  obtain ⟨_, _, ⟨T4, L4, k4, n4⟩, -, X4, ⟨Lc4, hQ4, l4, y4, z4⟩, st4⟩ := X3.specialBack hx (y := M_1) rfl hown (mvT hZ (tw_3 hw)) (mvT hZ (tw_4 hw)) (mvT hZ (tw_5 hw)) (by decide) (backOf (W := 1) (rm1_6 l Z a0 hw [] b17 p2 p3 h3 n0 (Nat.le_trans Z0 KK3.1) F3_15 A3 g_b17 F3_17) hZ (tw_5 hw) (tw_2 hw) (by decide) (by decide)) (g := (mkF m 55 #[.val (.int p0), .val (.int p1), .val (.int p2), .val (.int p3), .val (.int p4), .val (.int p2), .val (.int p3), .val (.int 0), .val (.ref b16), .unset, .unset] [(.int p3), (.int p2), (.ref b17), (.ref b17)])) rfl (by rw [hml]; rfl) (Steps.refl _) (a := b17) (argsL := [(.int p2), (.int p3)]) (rest := [(.ref b17)]) (lenOf pd_1 rfl) rfl (by show 2 * 0 + _ ≤ _; exact Nat.le_of_eq rfl) (hb hby at_55) (fun _ _ => ⟨rfl, e3, (by decide : 2 + 0 ≤ _), (by decide : 4 + 0 ≤ _)⟩)
  dsimp only [Pt.U, Pt.locs, Pt.cells, Pt.slots] at X4 l4 y4 z4 st4 hQ4
  subst l4 y4 z4
  obtain ⟨rfl, Nq4, K4, o4_0, o4_1⟩ := hQ4
  have N4 := Fr.app N2 Nq4
  have KK4 : Keep h0 T4.heap [] := KK3.trans K4 (fun x hx => (List.mem_cons.mp hx).elim (fun q => q ▸ (Or.inr sz_b17)) (fun hx => nomatch hx))
  -- pc 88: hexwright/board/Hex.equals
  have u5 : E_1 Z T4.heap b17 := Exa.keep A3 K4
  have u6 : F_0 Z h3 b16 (.int p0) := Fld.ext E3 o2_0
  have u7 : E_1 Z T2.heap b16 := Exa.keep A1 K2
  have ne8 : b16 ≠ b17 := Nat.ne_of_lt (Nat.lt_of_lt_of_le (Exa.lt u7) (Nat.le_of_eq g3.symm))
  have u9 : F_0 Z T4.heap b16 (.int p0) := Fld.keep u6 K4 (own_notin ne8 List.not_mem_nil)
  have u11 : E_1 Z h3 b16 := Exa.ext E3 u7
  have u12 : E_1 Z T4.heap b16 := Exa.keep u11 K4
  obtain ⟨cq10, kq10, q10a, q10b, q10c⟩ := isOf hZ rfl u12
  obtain ⟨_, _, ⟨T10, L10, k10, n10⟩, -, X10, ⟨Lc10, hQ10, l10, y10, z10⟩, st10⟩ := X4.virtualBack hx (y := M_2) (z := M_2) hown (mvT hZ (tw_18 hw)) (mvT hZ (tw_19 hw)) (notFace_of_selects (args := #[]) (mvT hZ (tw_21 hw))) (mvT hZ (tw_21 hw)) (mvT hZ (tw_20 hw)) (by decide) (backOf (W := 0) (rm4_18 l Z a0 hw [] b16 b17 p2 p0 T4.heap n0 (Nat.le_trans Z0 KK4.1) u5 o4_0 u9 f4) hZ (tw_22 hw) (tw_2 hw) (by decide) (by decide)) q10a q10c (g := (mkF m 88 #[.val (.int p0), .val (.int p1), .val (.int p2), .val (.int p3), .val (.int p4), .val (.int p2), .val (.int p3), .val (.int 0), .val (.ref b16), .val (.ref b17), .val (.int 0)] [(.ref b17), (.ref b16)])) rfl (by rw [hml]; rfl) (Steps.refl _) (argsL := [(.ref b17)]) (rest := []) (lenOf pd_2 rfl) rfl (by show 2 * 0 + _ ≤ _; exact Nat.le_of_eq rfl) (hb hby at_88) (fun _ _ => ⟨rfl, rfl, (by decide : 2 + 0 ≤ _), (by decide : 4 + 0 ≤ _)⟩)
  dsimp only [Pt.U, Pt.locs, Pt.cells, Pt.slots] at X10 l10 y10 z10 st10 hQ10
  subst l10 y10 z10
  obtain ⟨rfl, Nq10, e10⟩ := hQ10
  have N10 := Fr.app N4 Nq10
  -- pc 100: hexwright/board/Hex.equals
  obtain ⟨cq13, kq13, q13a, q13b, q13c⟩ := isOf hZ e10 u5
  obtain ⟨_, _, ⟨T13, L13, k13, n13⟩, -, X13, ⟨Lc13, hQ13, l13, y13, z13⟩, st13⟩ := X10.virtualBack hx (y := M_2) (z := M_2) hown (mvT hZ (tw_18 hw)) (mvT hZ (tw_19 hw)) (notFace_of_selects (args := #[]) (mvT hZ (tw_21 hw))) (mvT hZ (tw_21 hw)) (mvT hZ (tw_20 hw)) (by decide) (backOf (W := 0) (rm4_19 l Z a0 hw [] b17 b16 p0 p2 T4.heap n0 (Nat.le_trans Z0 KK4.1) u12 u9 o4_0 f5) hZ (tw_22 hw) (tw_2 hw) (by decide) (by decide)) q13a q13c (g := (mkF m 100 #[.val (.int p0), .val (.int p1), .val (.int p2), .val (.int p3), .val (.int p4), .val (.int p2), .val (.int p3), .val (.int 0), .val (.ref b16), .val (.ref b17), .val (.int 0)] [(.ref b16), (.ref b17)])) rfl (by rw [hml]; rfl) (Steps.refl _) (argsL := [(.ref b16)]) (rest := []) (lenOf pd_2 rfl) rfl (by show 2 * 0 + _ ≤ _; exact Nat.le_of_eq rfl) (hb hby at_100) (fun _ _ => ⟨rfl, e10, (by decide : 2 + 0 ≤ _), (by decide : 4 + 0 ≤ _)⟩)
  dsimp only [Pt.U, Pt.locs, Pt.cells, Pt.slots] at X13 l13 y13 z13 st13 hQ13
  subst l13 y13 z13
  obtain ⟨rfl, Nq13, e13⟩ := hQ13
  have N13 := Fr.app N10 Nq13
  obtain ⟨fs, hr, hrun, hended, hW, hsame⟩ := X13.leave (v := (some (.int 1))) (fun h => by rw [Bd.returns] at h; cases h)
  refine ⟨_, _, castTop (ef0_IIIII m p0 p1 p2 p3 p4) ?_, hrun, hended, _, _, rfl, ?_, ⟨_, rfl⟩, hW, hsame.mono (by decide) (by decide)⟩
  · show Steps p.tables e below (s₁.setTop (mkF m 0 #[.val (.int p0), .val (.int p1), .val (.int p2), .val (.int p3), .val (.int p4), .unset, .unset, .unset, .unset, .unset, .unset] [])) _
    refine XS.iload X0.here hx rfl (hb hby at_0) rfl ?_
    refine XS.iconst X0.here hx rfl (hb hby at_2) ?_
    show Steps p.tables e below (s₁.setTop (mkF m 3 #[.val (.int p0), .val (.int p1), .val (.int p2), .val (.int p3), .val (.int p4), .unset, .unset, .unset, .unset, .unset, .unset] [(.int 1), (.int p4)])) _
    refine XS.iand X0.here hx rfl (hb hby at_3) rfl ?_
    refine XS.ifYes X0.here hx rfl (pc0 := 4) (pc' := 11) rfl (hb hby at_4) rfl ((if0 _ _).trans (teq (f1 : (p4 &&& (1 : Int32)) = (0 : Int32))).1) (by decide) (by decide) ?_
    refine XS.iloadN X0.here hx rfl (hb hby at_11) rfl ?_
    refine XS.istore X0.here hx rfl (hb hby at_12) rfl (l' := #[.val (.int p0), .val (.int p1), .val (.int p2), .val (.int p3), .val (.int p4), .val (.int p2), .unset, .unset, .unset, .unset, .unset]) rfl ?_
    refine XS.iload X0.here hx rfl (hb hby at_14) rfl ?_
    show Steps p.tables e below (s₁.setTop (mkF m 16 #[.val (.int p0), .val (.int p1), .val (.int p2), .val (.int p3), .val (.int p4), .val (.int p2), .unset, .unset, .unset, .unset, .unset] [(.int p4)])) _
    refine XS.iconst X0.here hx rfl (hb hby at_16) ?_
    show Steps p.tables e below (s₁.setTop (mkF m 17 #[.val (.int p0), .val (.int p1), .val (.int p2), .val (.int p3), .val (.int p4), .val (.int p2), .unset, .unset, .unset, .unset, .unset] [(.int 2), (.int p4)])) _
    refine XS.iand X0.here hx rfl (hb hby at_17) rfl ?_
    refine XS.ifYes X0.here hx rfl (pc0 := 18) (pc' := 25) rfl (hb hby at_18) rfl ((if0 _ _).trans (teq (f2 : (p4 &&& (2 : Int32)) = (0 : Int32))).1) (by decide) (by decide) ?_
    refine XS.iloadN X0.here hx rfl (hb hby at_25) rfl ?_
    refine XS.istore X0.here hx rfl (hb hby at_26) rfl (l' := #[.val (.int p0), .val (.int p1), .val (.int p2), .val (.int p3), .val (.int p4), .val (.int p2), .val (.int p3), .unset, .unset, .unset, .unset]) rfl ?_
    refine XS.iload X0.here hx rfl (hb hby at_28) rfl ?_
    show Steps p.tables e below (s₁.setTop (mkF m 30 #[.val (.int p0), .val (.int p1), .val (.int p2), .val (.int p3), .val (.int p4), .val (.int p2), .val (.int p3), .unset, .unset, .unset, .unset] [(.int p4)])) _
    refine XS.iconst X0.here hx rfl (hb hby at_30) ?_
    show Steps p.tables e below (s₁.setTop (mkF m 31 #[.val (.int p0), .val (.int p1), .val (.int p2), .val (.int p3), .val (.int p4), .val (.int p2), .val (.int p3), .unset, .unset, .unset, .unset] [(.int 2), (.int p4)])) _
    refine XS.iushr X0.here hx rfl (hb hby at_31) rfl ?_
    refine XS.iconst X0.here hx rfl (hb hby at_32) ?_
    show Steps p.tables e below (s₁.setTop (mkF m 33 #[.val (.int p0), .val (.int p1), .val (.int p2), .val (.int p3), .val (.int p4), .val (.int p2), .val (.int p3), .unset, .unset, .unset, .unset] [(.int 3), (.int ((p4.toUInt32 >>> ((2 : Int32) &&& 31).toUInt32).toInt32))])) _
    refine XS.iand X0.here hx rfl (hb hby at_33) rfl ?_
    show Steps p.tables e below (s₁.setTop (mkF m 34 #[.val (.int p0), .val (.int p1), .val (.int p2), .val (.int p3), .val (.int p4), .val (.int p2), .val (.int p3), .unset, .unset, .unset, .unset] [(.int (((p4.toUInt32 >>> ((2 : Int32) &&& 31).toUInt32).toInt32) &&& (3 : Int32)))])) _
    rw [f3]
    refine XS.istore X0.here hx rfl (hb hby at_34) rfl (l' := #[.val (.int p0), .val (.int p1), .val (.int p2), .val (.int p3), .val (.int p4), .val (.int p2), .val (.int p3), .val (.int 0), .unset, .unset, .unset]) rfl ?_
    show Steps p.tables e below (s₁.setTop (mkF m 36 #[.val (.int p0), .val (.int p1), .val (.int p2), .val (.int p3), .val (.int p4), .val (.int p2), .val (.int p3), .val (.int 0), .unset, .unset, .unset] [])) _
    refine st1 _ ?_
    refine XS.dup X1.here hx rfl (hb hby at_39) rfl rfl ?_
    refine XS.iloadN X1.here hx rfl (hb hby at_40) rfl ?_
    refine XS.iloadN X1.here hx rfl (hb hby at_41) rfl ?_
    show Steps p.tables e below (T1.setTop (mkF m 42 #[.val (.int p0), .val (.int p1), .val (.int p2), .val (.int p3), .val (.int p4), .val (.int p2), .val (.int p3), .val (.int 0), .unset, .unset, .unset] [(.int p1), (.int p0), (.ref b16), (.ref b16)])) _
    refine st2.trans ?_
    refine XS.astore X2.here hx rfl (hb hby at_45) rfl rfl (l' := #[.val (.int p0), .val (.int p1), .val (.int p2), .val (.int p3), .val (.int p4), .val (.int p2), .val (.int p3), .val (.int 0), .val (.ref b16), .unset, .unset]) rfl ?_
    show Steps p.tables e below (T2.setTop (mkF m 47 #[.val (.int p0), .val (.int p1), .val (.int p2), .val (.int p3), .val (.int p4), .val (.int p2), .val (.int p3), .val (.int 0), .val (.ref b16), .unset, .unset] [])) _
    refine st3 _ ?_
    refine XS.dup X3.here hx rfl (hb hby at_50) rfl rfl ?_
    refine XS.iload X3.here hx rfl (hb hby at_51) rfl ?_
    refine XS.iload X3.here hx rfl (hb hby at_53) rfl ?_
    show Steps p.tables e below (T3.setTop (mkF m 55 #[.val (.int p0), .val (.int p1), .val (.int p2), .val (.int p3), .val (.int p4), .val (.int p2), .val (.int p3), .val (.int 0), .val (.ref b16), .unset, .unset] [(.int p3), (.int p2), (.ref b17), (.ref b17)])) _
    refine st4.trans ?_
    refine XS.astore X4.here hx rfl (hb hby at_58) rfl rfl (l' := #[.val (.int p0), .val (.int p1), .val (.int p2), .val (.int p3), .val (.int p4), .val (.int p2), .val (.int p3), .val (.int 0), .val (.ref b16), .val (.ref b17), .unset]) rfl ?_
    refine XS.iload X4.here hx rfl (hb hby at_60) rfl ?_
    refine XS.ifNo X4.here hx rfl (hb hby at_62) rfl (by decide) ?_
    refine XS.iload X4.here hx rfl (hb hby at_65) rfl ?_
    show Steps p.tables e below (T4.setTop (mkF m 67 #[.val (.int p0), .val (.int p1), .val (.int p2), .val (.int p3), .val (.int p4), .val (.int p2), .val (.int p3), .val (.int 0), .val (.ref b16), .val (.ref b17), .unset] [(.int p2)])) _
    refine XS.iloadN X4.here hx rfl (hb hby at_67) rfl ?_
    refine XS.icmpYes X4.here hx rfl (pc0 := 68) (pc' := 81) rfl (hb hby at_68) rfl (feq (f4 : ¬ (p2 = p0))).2 (by decide) (by decide) ?_
    refine XS.iconst X4.here hx rfl (hb hby at_81) ?_
    refine XS.istore X4.here hx rfl (hb hby at_82) rfl (l' := #[.val (.int p0), .val (.int p1), .val (.int p2), .val (.int p3), .val (.int p4), .val (.int p2), .val (.int p3), .val (.int 0), .val (.ref b16), .val (.ref b17), .val (.int 0)]) rfl ?_
    refine XS.aload X4.here hx rfl (hb hby at_84) rfl rfl ?_
    show Steps p.tables e below (T4.setTop (mkF m 86 #[.val (.int p0), .val (.int p1), .val (.int p2), .val (.int p3), .val (.int p4), .val (.int p2), .val (.int p3), .val (.int 0), .val (.ref b16), .val (.ref b17), .val (.int 0)] [(.ref b16)])) _
    refine XS.aload X4.here hx rfl (hb hby at_86) rfl rfl ?_
    show Steps p.tables e below (T4.setTop (mkF m 88 #[.val (.int p0), .val (.int p1), .val (.int p2), .val (.int p3), .val (.int p4), .val (.int p2), .val (.int p3), .val (.int 0), .val (.ref b16), .val (.ref b17), .val (.int 0)] [(.ref b17), (.ref b16)])) _
    refine st10.trans ?_
    refine XS.iload X10.here hx rfl (hb hby at_91) rfl ?_
    refine XS.icmpNo X10.here hx rfl (hb hby at_93) rfl (by decide) ?_
    refine XS.aload X10.here hx rfl (hb hby at_96) rfl rfl ?_
    refine XS.aload X10.here hx rfl (hb hby at_98) rfl rfl ?_
    show Steps p.tables e below (T10.setTop (mkF m 100 #[.val (.int p0), .val (.int p1), .val (.int p2), .val (.int p3), .val (.int p4), .val (.int p2), .val (.int p3), .val (.int 0), .val (.ref b16), .val (.ref b17), .val (.int 0)] [(.ref b16), (.ref b17)])) _
    refine st13.trans ?_
    refine XS.iload X13.here hx rfl (hb hby at_103) rfl ?_
    refine XS.icmpNo X13.here hx rfl (hb hby at_105) rfl (by decide) ?_
    refine XS.iconst X13.here hx rfl (hb hby at_108) ?_
    refine XS.goto X13.here hx rfl (pc0 := 109) (pc' := 113) rfl (hb hby at_109) (by decide) (by decide) ?_
    show Steps p.tables e below (T13.setTop (mkF m 113 #[.val (.int p0), .val (.int p1), .val (.int p2), .val (.int p3), .val (.int p4), .val (.int p2), .val (.int p3), .val (.int 0), .val (.ref b16), .val (.ref b17), .val (.int 0)] [(.int 1)])) _
    exact retN X13 hx (t := .boolean) Bd.returns (by simp) (hb hby at_113) hr
  · show QT n0 _ T13.heap _
    rw [e13]
    exact ⟨rfl, N13⟩
theorem ef4_Rn (m : MethodId) (x0 : Addr) : entryFrame m #[(.ref x0), .null] 3 = mkF m 0 #[.val (.ref x0), .val .null, .unset] [] := by first | (simp [entryFrame, mkF, argsToLocals, Value.category]; done) | rfl
set_option maxRecDepth 65536 in
set_option maxHeartbeats 40000000 in
theorem rm4_23 (l : Launch) (Z : State) (a0 : Array Value) (hw : ∀ d ∈ tables_1, d.before a0 Z = true) (ws : List Jvm.Cond) (c0_a : Addr) (h0 : Heap) (n0 : Nat) (Z0 : n0 ≤ h0.size) :
    MetFree l M_2 (head1 (Jvm.Cond.code M_2 prog_3_method_4_code 3 (some .boolean) :: ws) R_0_0_0_0) (fun a U => a = #[(.ref c0_a), .null] ∧ Z.Warmed39 U.vm ∧ U.heap = h0) (fun _ _ _ _ _ => True) (fun _ U o U' => ∃ v L, o = .returned v ∧ QP (some (.int 0)) h0 n0 v U'.heap L ∧ FrameEnd U o U' L R_0_0_0_0.cells R_0_0_0_0.slots) := by
  refine MetFree.of_bodySF (plainFor_of_name pn_hexwright_board_Hex) hisR ?_
  intro p e s m args below meth c s₁ Bd hml0 hP hK
  obtain ⟨rfl, hZ, hh⟩ := hP
  have hx := Bd.exec
  have hby := Bd.bytes
  have hml : c.maxLocals = 3 := hml0
  have hown : s.vm.findClass "hexwright/board/Hex" = some m.cls := findClass_of_methodNamed Bd.named
  have hnm := (name_of_methodNamed Bd.named Bd.method).1
  have X0 : Stand p l e R_0_0_0_0 s m #[(.ref c0_a), .null] below meth c s₁ [] 0 0 := Stand.of_body Bd
  have e0 : s₁.heap = h0 := by rw [← hh, Bd.state]; rfl
  have N0 := Fr.nil n0
  obtain ⟨fs, hr, hrun, hended, hW, hsame⟩ := X0.leave (v := (some (.int 0))) (fun h => by rw [Bd.returns] at h; cases h)
  refine ⟨_, _, castTop (ef4_Rn m c0_a) ?_, hrun, hended, _, _, rfl, ?_, ⟨_, rfl⟩, hW, hsame.mono (by decide) (by decide)⟩
  · show Steps p.tables e below (s₁.setTop (mkF m 0 #[.val (.ref c0_a), .val .null, .unset] [])) _
    refine XS.aloadN X0.here hx rfl (hb hby d4_0) rfl rfl ?_
    show Steps p.tables e below (s₁.setTop (mkF m 1 #[.val (.ref c0_a), .val .null, .unset] [.null])) _
    refine X0.instanceofNull hx (g := (mkF m 1 #[.val (.ref c0_a), .val .null, .unset] [.null])) rfl rfl (hb hby d4_1) _ ?_
    refine XS.ifYes X0.here hx rfl (pc0 := 4) (pc' := 38) rfl (hb hby d4_4) rfl (by decide) (by decide) (by decide) ?_
    refine XS.iconst X0.here hx rfl (hb hby d4_38) ?_
    show Steps p.tables e below (s₁.setTop (mkF m 39 #[.val (.ref c0_a), .val .null, .unset] [(.int 0)])) _
    exact retN X0 hx (t := .boolean) Bd.returns (by simp) (hb hby d4_39) hr
  · show QP (some (.int 0)) h0 n0 _ s₁.heap _
    rw [e0]
    exact ⟨rfl, N0, rfl⟩
set_option maxRecDepth 65536 in
set_option maxHeartbeats 40000000 in
theorem rm0_24 (l : Launch) (Z : State) (a0 : Array Value) (hw : ∀ d ∈ tables_1, d.before a0 Z = true) (ws : List Jvm.Cond) (p0 : Int32) (p1 : Int32) (p2 : Int32) (p3 : Int32) (p4 : Int32) (h0 : Heap) (n0 : Nat) (Z0 : n0 ≤ h0.size) (f1 : (p4 &&& (1 : Int32)) = (0 : Int32)) (f2 : (p4 &&& (2 : Int32)) = (0 : Int32)) (f3 : (((p4.toUInt32 >>> ((2 : Int32) &&& 31).toUInt32).toInt32) &&& (3 : Int32)) = (1 : Int32)) :
    MetFree l x (head1 (Jvm.Cond.code x code maxLocals ret :: ws) room_1) (fun a U => a = #[(.int p0), (.int p1), (.int p2), (.int p3), (.int p4)] ∧ Z.Warmed39 U.vm ∧ U.heap = h0) (fun _ _ _ _ _ => True) (fun _ U o U' => ∃ v L, o = .returned v ∧ QT n0 v U'.heap L ∧ FrameEnd U o U' L room_1.cells room_1.slots) := by
  refine MetFree.of_bodySF (plainFor_of_name pn_hexwright_board_HexEqualsPinLaw) hisR ?_
  intro p e s m args below meth c s₁ Bd hml0 hP hK
  obtain ⟨rfl, hZ, hh⟩ := hP
  have hx := Bd.exec
  have hby := Bd.bytes
  have hml : c.maxLocals = 11 := hml0
  have hown : s.vm.findClass "hexwright/board/HexEqualsPinLaw" = some m.cls := findClass_of_methodNamed Bd.named
  have hnm := (name_of_methodNamed Bd.named Bd.method).1
  have X0 : Stand p l e room_1 s m #[(.int p0), (.int p1), (.int p2), (.int p3), (.int p4)] below meth c s₁ [] 0 0 := Stand.of_body Bd
  have e0 : s₁.heap = h0 := by rw [← hh, Bd.state]; rfl
  have N0 := Fr.nil n0
  obtain ⟨T1, h1, X1, e1, E1, A1, D1, -, st1⟩ := newO X0 hx hZ hown (tw_0 hw) (tw_1 hw) (tw_2 hw) e0 (g := (mkF m 36 #[.val (.int p0), .val (.int p1), .val (.int p2), .val (.int p3), .val (.int p4), .val (.int p2), .val (.int p3), .val (.int 1), .unset, .unset, .unset] [])) rfl (hb hby at_36) (by decide) (by decide)
  obtain ⟨b21, g1⟩ : ∃ z, z = h0.size := ⟨_, rfl⟩
  rw [← g1] at A1 D1 st1
  have sz_b21 : h0.size ≤ b21 := Nat.le_trans (Nat.le_refl _) (Nat.le_of_eq g1.symm)
  have g_b21 : n0 ≤ b21 := Nat.le_trans Z0 sz_b21
  have KK1 : Keep h0 h1 [] := (Keep.refl h0 []).ext E1
  have F1_15 : F_0 Z h1 b21 (.int 0) := D1 (Or.inr (tw_15 hw)) (ty := .int) (by decide)
  have F1_17 : F_1 Z h1 b21 (.int 0) := D1 (Or.inr (tw_17 hw)) (ty := .int) (by decide)
  -- pc 42: hexwright/board/Hex.<init>
  obtain ⟨_, _, ⟨T2, L2, k2, n2⟩, -, X2, ⟨Lc2, hQ2, l2, y2, z2⟩, st2⟩ := X1.specialBack hx (y := M_1) rfl hown (mvT hZ (tw_3 hw)) (mvT hZ (tw_4 hw)) (mvT hZ (tw_5 hw)) (by decide) (backOf (W := 1) (rm1_3 l Z a0 hw [] b21 p0 p1 h1 n0 (Nat.le_trans Z0 KK1.1) F1_15 A1 g_b21 F1_17) hZ (tw_5 hw) (tw_2 hw) (by decide) (by decide)) (g := (mkF m 42 #[.val (.int p0), .val (.int p1), .val (.int p2), .val (.int p3), .val (.int p4), .val (.int p2), .val (.int p3), .val (.int 1), .unset, .unset, .unset] [(.int p1), (.int p0), (.ref b21), (.ref b21)])) rfl (by rw [hml]; rfl) (Steps.refl _) (a := b21) (argsL := [(.int p0), (.int p1)]) (rest := [(.ref b21)]) (lenOf pd_1 rfl) rfl (by show 2 * 0 + _ ≤ _; exact Nat.le_of_eq rfl) (hb hby at_42) (fun _ _ => ⟨rfl, e1, (by decide : 1 + 0 ≤ _), (by decide : 2 + 0 ≤ _)⟩)
  dsimp only [Pt.U, Pt.locs, Pt.cells, Pt.slots] at X2 l2 y2 z2 st2 hQ2
  subst l2 y2 z2
  obtain ⟨rfl, Nq2, K2, o2_0, o2_1⟩ := hQ2
  have N2 := Fr.app N0 Nq2
  have KK2 : Keep h0 T2.heap [] := KK1.trans K2 (fun x hx => (List.mem_cons.mp hx).elim (fun q => q ▸ (Or.inr sz_b21)) (fun hx => nomatch hx))
  obtain ⟨T3, h3, X3, e3, E3, A3, D3, -, st3⟩ := newO X2 hx hZ hown (tw_0 hw) (tw_1 hw) (tw_2 hw) rfl (g := (mkF m 47 #[.val (.int p0), .val (.int p1), .val (.int p2), .val (.int p3), .val (.int p4), .val (.int p2), .val (.int p3), .val (.int 1), .val (.ref b21), .unset, .unset] [])) rfl (hb hby at_47) (by decide) (by decide)
  obtain ⟨b22, g3⟩ : ∃ z, z = T2.heap.size := ⟨_, rfl⟩
  rw [← g3] at A3 D3 st3
  have sz_b22 : h0.size ≤ b22 := Nat.le_trans KK2.1 (Nat.le_of_eq g3.symm)
  have g_b22 : n0 ≤ b22 := Nat.le_trans Z0 sz_b22
  have KK3 : Keep h0 h3 [] := KK2.ext E3
  have F3_15 : F_0 Z h3 b22 (.int 0) := D3 (Or.inr (tw_15 hw)) (ty := .int) (by decide)
  have F3_17 : F_1 Z h3 b22 (.int 0) := D3 (Or.inr (tw_17 hw)) (ty := .int) (by decide)
  -- pc 55: hexwright/board/Hex.<init>
  obtain ⟨_, _, ⟨T4, L4, k4, n4⟩, -, X4, ⟨Lc4, hQ4, l4, y4, z4⟩, st4⟩ := X3.specialBack hx (y := M_1) rfl hown (mvT hZ (tw_3 hw)) (mvT hZ (tw_4 hw)) (mvT hZ (tw_5 hw)) (by decide) (backOf (W := 1) (rm1_6 l Z a0 hw [] b22 p2 p3 h3 n0 (Nat.le_trans Z0 KK3.1) F3_15 A3 g_b22 F3_17) hZ (tw_5 hw) (tw_2 hw) (by decide) (by decide)) (g := (mkF m 55 #[.val (.int p0), .val (.int p1), .val (.int p2), .val (.int p3), .val (.int p4), .val (.int p2), .val (.int p3), .val (.int 1), .val (.ref b21), .unset, .unset] [(.int p3), (.int p2), (.ref b22), (.ref b22)])) rfl (by rw [hml]; rfl) (Steps.refl _) (a := b22) (argsL := [(.int p2), (.int p3)]) (rest := [(.ref b22)]) (lenOf pd_1 rfl) rfl (by show 2 * 0 + _ ≤ _; exact Nat.le_of_eq rfl) (hb hby at_55) (fun _ _ => ⟨rfl, e3, (by decide : 2 + 0 ≤ _), (by decide : 4 + 0 ≤ _)⟩)
  dsimp only [Pt.U, Pt.locs, Pt.cells, Pt.slots] at X4 l4 y4 z4 st4 hQ4
  subst l4 y4 z4
  obtain ⟨rfl, Nq4, K4, o4_0, o4_1⟩ := hQ4
  have N4 := Fr.app N2 Nq4
  have KK4 : Keep h0 T4.heap [] := KK3.trans K4 (fun x hx => (List.mem_cons.mp hx).elim (fun q => q ▸ (Or.inr sz_b22)) (fun hx => nomatch hx))
  -- pc 123: hexwright/board/Hex.equals
  have u6 : E_1 Z T2.heap b21 := Exa.keep A1 K2
  have u7 : E_1 Z h3 b21 := Exa.ext E3 u6
  have u8 : E_1 Z T4.heap b21 := Exa.keep u7 K4
  obtain ⟨cq5, kq5, q5a, q5b, q5c⟩ := isOf hZ rfl u8
  obtain ⟨_, _, ⟨T5, L5, k5, n5⟩, -, X5, ⟨Lc5, hQ5, l5, y5, z5⟩, st5⟩ := X4.virtualBack hx (y := M_2) (z := M_2) hown (mvT hZ (tw_18 hw)) (mvT hZ (tw_19 hw)) (notFace_of_selects (args := #[]) (mvT hZ (tw_21 hw))) (mvT hZ (tw_21 hw)) (mvT hZ (tw_20 hw)) (by decide) (backOf (W := 0) (rm4_23 l Z a0 hw [] b21 T4.heap n0 (Nat.le_trans Z0 KK4.1) ) hZ (tw_22 hw) (tw_2 hw) (by decide) (by decide)) q5a q5c (g := (mkF m 123 #[.val (.int p0), .val (.int p1), .val (.int p2), .val (.int p3), .val (.int p4), .val (.int p2), .val (.int p3), .val (.int 1), .val (.ref b21), .val (.ref b22), .unset] [.null, (.ref b21)])) rfl (by rw [hml]; rfl) (Steps.refl _) (argsL := [.null]) (rest := []) (lenOf pd_2 rfl) rfl (by show 2 * 0 + _ ≤ _; exact Nat.le_of_eq rfl) (hb hby at_123) (fun _ _ => ⟨rfl, rfl, (by decide : 2 + 0 ≤ _), (by decide : 4 + 0 ≤ _)⟩)
  dsimp only [Pt.U, Pt.locs, Pt.cells, Pt.slots] at X5 l5 y5 z5 st5 hQ5
  subst l5 y5 z5
  obtain ⟨rfl, Nq5, e5⟩ := hQ5
  have N5 := Fr.app N4 Nq5
  obtain ⟨fs, hr, hrun, hended, hW, hsame⟩ := X5.leave (v := (some (.int 1))) (fun h => by rw [Bd.returns] at h; cases h)
  refine ⟨_, _, castTop (ef0_IIIII m p0 p1 p2 p3 p4) ?_, hrun, hended, _, _, rfl, ?_, ⟨_, rfl⟩, hW, hsame.mono (by decide) (by decide)⟩
  · show Steps p.tables e below (s₁.setTop (mkF m 0 #[.val (.int p0), .val (.int p1), .val (.int p2), .val (.int p3), .val (.int p4), .unset, .unset, .unset, .unset, .unset, .unset] [])) _
    refine XS.iload X0.here hx rfl (hb hby at_0) rfl ?_
    refine XS.iconst X0.here hx rfl (hb hby at_2) ?_
    show Steps p.tables e below (s₁.setTop (mkF m 3 #[.val (.int p0), .val (.int p1), .val (.int p2), .val (.int p3), .val (.int p4), .unset, .unset, .unset, .unset, .unset, .unset] [(.int 1), (.int p4)])) _
    refine XS.iand X0.here hx rfl (hb hby at_3) rfl ?_
    refine XS.ifYes X0.here hx rfl (pc0 := 4) (pc' := 11) rfl (hb hby at_4) rfl ((if0 _ _).trans (teq (f1 : (p4 &&& (1 : Int32)) = (0 : Int32))).1) (by decide) (by decide) ?_
    refine XS.iloadN X0.here hx rfl (hb hby at_11) rfl ?_
    refine XS.istore X0.here hx rfl (hb hby at_12) rfl (l' := #[.val (.int p0), .val (.int p1), .val (.int p2), .val (.int p3), .val (.int p4), .val (.int p2), .unset, .unset, .unset, .unset, .unset]) rfl ?_
    refine XS.iload X0.here hx rfl (hb hby at_14) rfl ?_
    show Steps p.tables e below (s₁.setTop (mkF m 16 #[.val (.int p0), .val (.int p1), .val (.int p2), .val (.int p3), .val (.int p4), .val (.int p2), .unset, .unset, .unset, .unset, .unset] [(.int p4)])) _
    refine XS.iconst X0.here hx rfl (hb hby at_16) ?_
    show Steps p.tables e below (s₁.setTop (mkF m 17 #[.val (.int p0), .val (.int p1), .val (.int p2), .val (.int p3), .val (.int p4), .val (.int p2), .unset, .unset, .unset, .unset, .unset] [(.int 2), (.int p4)])) _
    refine XS.iand X0.here hx rfl (hb hby at_17) rfl ?_
    refine XS.ifYes X0.here hx rfl (pc0 := 18) (pc' := 25) rfl (hb hby at_18) rfl ((if0 _ _).trans (teq (f2 : (p4 &&& (2 : Int32)) = (0 : Int32))).1) (by decide) (by decide) ?_
    refine XS.iloadN X0.here hx rfl (hb hby at_25) rfl ?_
    refine XS.istore X0.here hx rfl (hb hby at_26) rfl (l' := #[.val (.int p0), .val (.int p1), .val (.int p2), .val (.int p3), .val (.int p4), .val (.int p2), .val (.int p3), .unset, .unset, .unset, .unset]) rfl ?_
    refine XS.iload X0.here hx rfl (hb hby at_28) rfl ?_
    show Steps p.tables e below (s₁.setTop (mkF m 30 #[.val (.int p0), .val (.int p1), .val (.int p2), .val (.int p3), .val (.int p4), .val (.int p2), .val (.int p3), .unset, .unset, .unset, .unset] [(.int p4)])) _
    refine XS.iconst X0.here hx rfl (hb hby at_30) ?_
    show Steps p.tables e below (s₁.setTop (mkF m 31 #[.val (.int p0), .val (.int p1), .val (.int p2), .val (.int p3), .val (.int p4), .val (.int p2), .val (.int p3), .unset, .unset, .unset, .unset] [(.int 2), (.int p4)])) _
    refine XS.iushr X0.here hx rfl (hb hby at_31) rfl ?_
    refine XS.iconst X0.here hx rfl (hb hby at_32) ?_
    show Steps p.tables e below (s₁.setTop (mkF m 33 #[.val (.int p0), .val (.int p1), .val (.int p2), .val (.int p3), .val (.int p4), .val (.int p2), .val (.int p3), .unset, .unset, .unset, .unset] [(.int 3), (.int ((p4.toUInt32 >>> ((2 : Int32) &&& 31).toUInt32).toInt32))])) _
    refine XS.iand X0.here hx rfl (hb hby at_33) rfl ?_
    show Steps p.tables e below (s₁.setTop (mkF m 34 #[.val (.int p0), .val (.int p1), .val (.int p2), .val (.int p3), .val (.int p4), .val (.int p2), .val (.int p3), .unset, .unset, .unset, .unset] [(.int (((p4.toUInt32 >>> ((2 : Int32) &&& 31).toUInt32).toInt32) &&& (3 : Int32)))])) _
    rw [f3]
    refine XS.istore X0.here hx rfl (hb hby at_34) rfl (l' := #[.val (.int p0), .val (.int p1), .val (.int p2), .val (.int p3), .val (.int p4), .val (.int p2), .val (.int p3), .val (.int 1), .unset, .unset, .unset]) rfl ?_
    show Steps p.tables e below (s₁.setTop (mkF m 36 #[.val (.int p0), .val (.int p1), .val (.int p2), .val (.int p3), .val (.int p4), .val (.int p2), .val (.int p3), .val (.int 1), .unset, .unset, .unset] [])) _
    refine st1 _ ?_
    refine XS.dup X1.here hx rfl (hb hby at_39) rfl rfl ?_
    refine XS.iloadN X1.here hx rfl (hb hby at_40) rfl ?_
    refine XS.iloadN X1.here hx rfl (hb hby at_41) rfl ?_
    show Steps p.tables e below (T1.setTop (mkF m 42 #[.val (.int p0), .val (.int p1), .val (.int p2), .val (.int p3), .val (.int p4), .val (.int p2), .val (.int p3), .val (.int 1), .unset, .unset, .unset] [(.int p1), (.int p0), (.ref b21), (.ref b21)])) _
    refine st2.trans ?_
    refine XS.astore X2.here hx rfl (hb hby at_45) rfl rfl (l' := #[.val (.int p0), .val (.int p1), .val (.int p2), .val (.int p3), .val (.int p4), .val (.int p2), .val (.int p3), .val (.int 1), .val (.ref b21), .unset, .unset]) rfl ?_
    show Steps p.tables e below (T2.setTop (mkF m 47 #[.val (.int p0), .val (.int p1), .val (.int p2), .val (.int p3), .val (.int p4), .val (.int p2), .val (.int p3), .val (.int 1), .val (.ref b21), .unset, .unset] [])) _
    refine st3 _ ?_
    refine XS.dup X3.here hx rfl (hb hby at_50) rfl rfl ?_
    refine XS.iload X3.here hx rfl (hb hby at_51) rfl ?_
    refine XS.iload X3.here hx rfl (hb hby at_53) rfl ?_
    show Steps p.tables e below (T3.setTop (mkF m 55 #[.val (.int p0), .val (.int p1), .val (.int p2), .val (.int p3), .val (.int p4), .val (.int p2), .val (.int p3), .val (.int 1), .val (.ref b21), .unset, .unset] [(.int p3), (.int p2), (.ref b22), (.ref b22)])) _
    refine st4.trans ?_
    refine XS.astore X4.here hx rfl (hb hby at_58) rfl rfl (l' := #[.val (.int p0), .val (.int p1), .val (.int p2), .val (.int p3), .val (.int p4), .val (.int p2), .val (.int p3), .val (.int 1), .val (.ref b21), .val (.ref b22), .unset]) rfl ?_
    refine XS.iload X4.here hx rfl (hb hby at_60) rfl ?_
    refine XS.ifYes X4.here hx rfl (pc0 := 62) (pc' := 114) rfl (hb hby at_62) rfl (by decide) (by decide) (by decide) ?_
    refine XS.iload X4.here hx rfl (hb hby at_114) rfl ?_
    show Steps p.tables e below (T4.setTop (mkF m 116 #[.val (.int p0), .val (.int p1), .val (.int p2), .val (.int p3), .val (.int p4), .val (.int p2), .val (.int p3), .val (.int 1), .val (.ref b21), .val (.ref b22), .unset] [(.int 1)])) _
    refine XS.iconst X4.here hx rfl (hb hby at_116) ?_
    refine XS.icmpNo X4.here hx rfl (hb hby at_117) rfl (by decide) ?_
    refine XS.aload X4.here hx rfl (hb hby at_120) rfl rfl ?_
    refine XS.aconstNull X4.here hx rfl (hb hby at_122) ?_
    show Steps p.tables e below (T4.setTop (mkF m 123 #[.val (.int p0), .val (.int p1), .val (.int p2), .val (.int p3), .val (.int p4), .val (.int p2), .val (.int p3), .val (.int 1), .val (.ref b21), .val (.ref b22), .unset] [.null, (.ref b21)])) _
    refine st5.trans ?_
    refine XS.ifNo X5.here hx rfl (hb hby at_126) rfl (by decide) ?_
    refine XS.iconst X5.here hx rfl (hb hby at_129) ?_
    refine XS.goto X5.here hx rfl (pc0 := 130) (pc' := 134) rfl (hb hby at_130) (by decide) (by decide) ?_
    show Steps p.tables e below (T5.setTop (mkF m 134 #[.val (.int p0), .val (.int p1), .val (.int p2), .val (.int p3), .val (.int p4), .val (.int p2), .val (.int p3), .val (.int 1), .val (.ref b21), .val (.ref b22), .unset] [(.int 1)])) _
    exact retN X5 hx (t := .boolean) Bd.returns (by simp) (hb hby at_134) hr
  · show QT n0 _ T5.heap _
    rw [e5]
    exact ⟨rfl, N5⟩
theorem tw_25 {a0 : Array Value} {Z : State} (hw : ∀ d ∈ tables_1, d.before a0 Z = true) : (Jvm.Cond.methodLink "hexwright/board/HexEqualsPinLaw" (16 : Nat) ({ cls := "java/lang/Integer", name := "valueOf", desc := "(I)Ljava/lang/Integer;" } : Jvm.MethodName)).before a0 Z = true := hw _ (List.mem_of_getElem? (i := 25) rfl)
theorem tw_28 {a0 : Array Value} {Z : State} (hw : ∀ d ∈ tables_1, d.before a0 Z = true) : (Jvm.Cond.code ({ cls := "java/lang/Integer", name := "valueOf", desc := "(I)Ljava/lang/Integer;" } : Jvm.MethodName) jdk_33_method_22_code (1 : Nat) (Option.some (Jvm.ClassFile.FieldType.object "java/lang/Integer"))).before a0 Z = true := hw _ (List.mem_of_getElem? (i := 28) rfl)
theorem d5_0 : decode jdk_33_method_22_code 0 = .ok (.iload_n 0, 1) := by decide +kernel
theorem d5_1 : decode jdk_33_method_22_code 1 = .ok (.bipush (-128), 2) := by decide +kernel
theorem d5_3 : decode jdk_33_method_22_code 3 = .ok (.if_icmp .lt 20, 3) := by decide +kernel
theorem d5_23 : decode jdk_33_method_22_code 23 = .ok (.new 1, 3) := by decide +kernel
theorem tw_31 {a0 : Array Value} {Z : State} (hw : ∀ d ∈ tables_1, d.before a0 Z = true) : (Jvm.Cond.classLink "java/lang/Integer" (1 : Nat) "java/lang/Integer").before a0 Z = true := hw _ (List.mem_of_getElem? (i := 31) rfl)
theorem tw_32 {a0 : Array Value} {Z : State} (hw : ∀ d ∈ tables_1, d.before a0 Z = true) : (Jvm.Cond.instantiable "java/lang/Integer" (1 : Nat)).before a0 Z = true := hw _ (List.mem_of_getElem? (i := 32) rfl)
theorem tw_27 {a0 : Array Value} {Z : State} (hw : ∀ d ∈ tables_1, d.before a0 Z = true) : (Jvm.Cond.initialized "java/lang/Integer").before a0 Z = true := hw _ (List.mem_of_getElem? (i := 27) rfl)
abbrev E_2 (Z : State) (h : Heap) (a : Addr) : Prop := Exa Z h a "java/lang/Integer"
abbrev F_2 (Z : State) (h : Heap) (a : Addr) (v : Value) : Prop := Fld Z h a "java/lang/Integer" "value" "I" v
theorem tw_45 {a0 : Array Value} {Z : State} (hw : ∀ d ∈ tables_1, d.before a0 Z = true) : (Jvm.Cond.laysFinal "java/lang/Integer" "java/lang/Integer" "value" "I").before a0 Z = true := hw _ (List.mem_of_getElem? (i := 45) rfl)
theorem d5_26 : decode jdk_33_method_22_code 26 = .ok (.dup, 1) := by decide +kernel
theorem d5_27 : decode jdk_33_method_22_code 27 = .ok (.iload_n 0, 1) := by decide +kernel
theorem d5_28 : decode jdk_33_method_22_code 28 = .ok (.invokespecial 199, 3) := by decide +kernel
theorem tw_33 {a0 : Array Value} {Z : State} (hw : ∀ d ∈ tables_1, d.before a0 Z = true) : (Jvm.Cond.methodLink "java/lang/Integer" (199 : Nat) ({ cls := "java/lang/Integer", name := "<init>", desc := "(I)V" } : Jvm.MethodName)).before a0 Z = true := hw _ (List.mem_of_getElem? (i := 33) rfl)
theorem tw_36 {a0 : Array Value} {Z : State} (hw : ∀ d ∈ tables_1, d.before a0 Z = true) : (Jvm.Cond.code ({ cls := "java/lang/Integer", name := "<init>", desc := "(I)V" } : Jvm.MethodName) jdk_33_method_23_code (2 : Nat) (Option.none : Option Jvm.ClassFile.FieldType)).before a0 Z = true := hw _ (List.mem_of_getElem? (i := 36) rfl)
theorem d6_0 : decode jdk_33_method_23_code 0 = .ok (.aload_n 0, 1) := by decide +kernel
theorem d6_1 : decode jdk_33_method_23_code 1 = .ok (.invokespecial 202, 3) := by decide +kernel
theorem tw_37 {a0 : Array Value} {Z : State} (hw : ∀ d ∈ tables_1, d.before a0 Z = true) : (Jvm.Cond.methodLink "java/lang/Integer" (202 : Nat) ({ cls := "java/lang/Number", name := "<init>", desc := "()V" } : Jvm.MethodName)).before a0 Z = true := hw _ (List.mem_of_getElem? (i := 37) rfl)
theorem tw_42 {a0 : Array Value} {Z : State} (hw : ∀ d ∈ tables_1, d.before a0 Z = true) : (Jvm.Cond.code ({ cls := "java/lang/Number", name := "<init>", desc := "()V" } : Jvm.MethodName) jdk_18_method_1_code (1 : Nat) (Option.none : Option Jvm.ClassFile.FieldType)).before a0 Z = true := hw _ (List.mem_of_getElem? (i := 42) rfl)
theorem d7_0 : decode jdk_18_method_1_code 0 = .ok (.aload_n 0, 1) := by decide +kernel
theorem d7_1 : decode jdk_18_method_1_code 1 = .ok (.invokespecial 1, 3) := by decide +kernel
theorem tw_43 {a0 : Array Value} {Z : State} (hw : ∀ d ∈ tables_1, d.before a0 Z = true) : (Jvm.Cond.methodLink "java/lang/Number" (1 : Nat) ({ cls := "java/lang/Object", name := "<init>", desc := "()V" } : Jvm.MethodName)).before a0 Z = true := hw _ (List.mem_of_getElem? (i := 43) rfl)
theorem d7_4 : decode jdk_18_method_1_code 4 = .ok (.return_, 1) := by decide +kernel
abbrev M_3 : MethodName := ⟨"java/lang/Number", "<init>", "()V"⟩
theorem ef7_R (m : MethodId) (x0 : Addr) : entryFrame m #[(.ref x0)] 1 = mkF m 0 #[.val (.ref x0)] [] := by first | (simp [entryFrame, mkF, argsToLocals, Value.category]; done) | rfl
theorem pn_java_lang_Number : plainName "java/lang/Number" = true := by first | (simp [plainName, overriddenIn]; done) | decide +kernel
set_option maxRecDepth 65536 in
set_option maxHeartbeats 40000000 in
theorem rm7_28 (l : Launch) (Z : State) (a0 : Array Value) (hw : ∀ d ∈ tables_1, d.before a0 Z = true) (ws : List Jvm.Cond) (c0_a : Addr) (h0 : Heap) (n0 : Nat) (Z0 : n0 ≤ h0.size) :
    MetFree l M_3 (head1 (Jvm.Cond.code M_3 jdk_18_method_1_code 1 none :: ws) R_1_0_0_12) (fun a U => a = #[(.ref c0_a)] ∧ Z.Warmed39 U.vm ∧ U.heap = h0) (fun _ _ _ _ _ => True) (fun _ U o U' => ∃ v L, o = .returned v ∧ QP none h0 n0 v U'.heap L ∧ FrameEnd U o U' L R_1_0_0_12.cells R_1_0_0_12.slots) := by
  refine MetFree.of_bodySF (plainFor_of_name pn_java_lang_Number) hisR ?_
  intro p e s m args below meth c s₁ Bd hml0 hP hK
  obtain ⟨rfl, hZ, hh⟩ := hP
  have hx := Bd.exec
  have hby := Bd.bytes
  have hml : c.maxLocals = 1 := hml0
  have hown : s.vm.findClass "java/lang/Number" = some m.cls := findClass_of_methodNamed Bd.named
  have hnm := (name_of_methodNamed Bd.named Bd.method).1
  have X0 : Stand p l e R_1_0_0_12 s m #[(.ref c0_a)] below meth c s₁ [] 0 0 := Stand.of_body Bd
  have e0 : s₁.heap = h0 := by rw [← hh, Bd.state]; rfl
  have N0 := Fr.nil n0
  obtain ⟨T1, X1, e1, st1⟩ := initO X0 hx hZ hown (tw_43 hw) (tw_12 hw) (tw_13 hw) e0 (g := (mkF m 1 #[.val (.ref c0_a)] [(.ref c0_a)])) rfl (by rw [hml]; rfl) rfl (hb hby d7_1) (by decide) (W := 0) (by show 2 * 0 + _ ≤ _; exact Nat.le_of_eq rfl) (by decide)
  obtain ⟨fs, hr, hrun, hended, hW, hsame⟩ := X1.leave (v := none) (fun _ => rfl)
  refine ⟨_, _, castTop (ef7_R m c0_a) ?_, hrun, hended, _, _, rfl, ?_, ⟨_, rfl⟩, hW, hsame.mono (by decide) (by decide)⟩
  · show Steps p.tables e below (s₁.setTop (mkF m 0 #[.val (.ref c0_a)] [])) _
    refine XS.aloadN X0.here hx rfl (hb hby d7_0) rfl rfl ?_
    show Steps p.tables e below (s₁.setTop (mkF m 1 #[.val (.ref c0_a)] [(.ref c0_a)])) _
    refine st1 _ ?_
    show Steps p.tables e below (T1.setTop (mkF m 4 #[.val (.ref c0_a)] [])) _
    exact X1.returnOut hx Bd.returns (hb hby d7_4) hr
  · show QP none h0 n0 _ T1.heap _
    rw [e1]
    exact ⟨rfl, N0, rfl⟩
theorem tw_41 {a0 : Array Value} {Z : State} (hw : ∀ d ∈ tables_1, d.before a0 Z = true) : (Jvm.Cond.initialized "java/lang/Number").before a0 Z = true := hw _ (List.mem_of_getElem? (i := 41) rfl)
theorem tw_38 {a0 : Array Value} {Z : State} (hw : ∀ d ∈ tables_1, d.before a0 Z = true) : (Jvm.Cond.instanceMethod ({ cls := "java/lang/Number", name := "<init>", desc := "()V" } : Jvm.MethodName)).before a0 Z = true := hw _ (List.mem_of_getElem? (i := 38) rfl)
theorem d6_4 : decode jdk_33_method_23_code 4 = .ok (.aload_n 0, 1) := by decide +kernel
theorem d6_5 : decode jdk_33_method_23_code 5 = .ok (.iload_n 1, 1) := by decide +kernel
theorem d6_6 : decode jdk_33_method_23_code 6 = .ok (.putfield 205, 3) := by decide +kernel
theorem tw_44 {a0 : Array Value} {Z : State} (hw : ∀ d ∈ tables_1, d.before a0 Z = true) : (Jvm.Cond.fieldLink "java/lang/Integer" (205 : Nat) "java/lang/Integer" "value" "I").before a0 Z = true := hw _ (List.mem_of_getElem? (i := 44) rfl)
theorem d6_9 : decode jdk_33_method_23_code 9 = .ok (.return_, 1) := by decide +kernel
abbrev M_4 : MethodName := ⟨"java/lang/Integer", "<init>", "(I)V"⟩
theorem ef6_RI (m : MethodId) (x0 : Addr) (x1 : Int32) : entryFrame m #[(.ref x0), (.int x1)] 2 = mkF m 0 #[.val (.ref x0), .val (.int x1)] [] := by first | (simp [entryFrame, mkF, argsToLocals, Value.category]; done) | rfl
def Q6_30 (Z : State) (c0_a : Addr) (p0 : Int32) (h0 : Heap) (n0 : Nat) (v : Option Value) (h : Heap) (L : List Loc) : Prop := v = none ∧ Fr n0 L ∧ Keep h0 h [c0_a] ∧ F_2 Z h c0_a (.int p0)
theorem pn_java_lang_Integer : plainName "java/lang/Integer" = true := by first | (simp [plainName, overriddenIn]; done) | decide +kernel
set_option maxRecDepth 65536 in
set_option maxHeartbeats 40000000 in
theorem rm6_29 (l : Launch) (Z : State) (a0 : Array Value) (hw : ∀ d ∈ tables_1, d.before a0 Z = true) (ws : List Jvm.Cond) (c0_a : Addr) (p0 : Int32) (h0 : Heap) (n0 : Nat) (Z0 : n0 ≤ h0.size) (f1 : F_2 Z h0 c0_a (.int 0)) (f2 : E_2 Z h0 c0_a) (f3 : n0 ≤ c0_a) :
    MetFree l M_4 (head1 (Jvm.Cond.code M_4 jdk_33_method_23_code 2 none :: ws) R_2_0_0_24) (fun a U => a = #[(.ref c0_a), (.int p0)] ∧ Z.Warmed39 U.vm ∧ U.heap = h0) (fun _ _ _ _ _ => True) (fun _ U o U' => ∃ v L, o = .returned v ∧ Q6_30 Z c0_a p0 h0 n0 v U'.heap L ∧ FrameEnd U o U' L R_2_0_0_24.cells R_2_0_0_24.slots) := by
  refine MetFree.of_bodySF (plainFor_of_name pn_java_lang_Integer) hisR ?_
  intro p e s m args below meth c s₁ Bd hml0 hP hK
  obtain ⟨rfl, hZ, hh⟩ := hP
  have hx := Bd.exec
  have hby := Bd.bytes
  have hml : c.maxLocals = 2 := hml0
  have hown : s.vm.findClass "java/lang/Integer" = some m.cls := findClass_of_methodNamed Bd.named
  have hnm := (name_of_methodNamed Bd.named Bd.method).1
  have X0 : Stand p l e R_2_0_0_24 s m #[(.ref c0_a), (.int p0)] below meth c s₁ [] 0 0 := Stand.of_body Bd
  have e0 : s₁.heap = h0 := by rw [← hh, Bd.state]; rfl
  have N0 := Fr.nil n0
  -- pc 1: java/lang/Number.<init>
  obtain ⟨_, _, ⟨T1, L1, k1, n1⟩, -, X1, ⟨Lc1, hQ1, l1, y1, z1⟩, st1⟩ := X0.specialBack hx (y := M_3) rfl hown (mvT hZ (tw_37 hw)) (mvT hZ (tw_38 hw)) (mvT hZ (tw_42 hw)) (by decide) (backOf (W := 0) (rm7_28 l Z a0 hw [] c0_a h0 n0 Z0 ) hZ (tw_42 hw) (tw_41 hw) (by decide) (by decide)) (g := (mkF m 1 #[.val (.ref c0_a), .val (.int p0)] [(.ref c0_a)])) rfl (by rw [hml]; rfl) (Steps.refl _) (a := c0_a) (argsL := []) (rest := []) (lenOf pd_0 rfl) rfl (by show 2 * 0 + _ ≤ _; exact Nat.le_of_eq rfl) (hb hby d6_1) (fun _ _ => ⟨rfl, e0, (by decide : 0 + 0 ≤ _), (by decide : 0 + 0 ≤ _)⟩)
  dsimp only [Pt.U, Pt.locs, Pt.cells, Pt.slots] at X1 l1 y1 z1 st1 hQ1
  subst l1 y1 z1
  obtain ⟨rfl, Nq1, e1⟩ := hQ1
  have N1 := Fr.app N0 Nq1
  obtain ⟨T2, h2, X2, e2, W2, st2⟩ := putF X1 hx hZ hown (host := "") (Or.inl (tw_44 hw)) Via.refl e1 f1 f2 (Or.inr ⟨(tw_45 hw), rfl, hnm⟩) (tw_32 hw) (ty := .int) (by decide) rfl rfl (g := (mkF m 6 #[.val (.ref c0_a), .val (.int p0)] [(.int p0), (.ref c0_a)])) rfl rfl (hb hby d6_6)
  have Fw2 : F_2 Z h2 c0_a (.int p0) := Fld.same W2 f1
  have KK2 : Keep h0 h2 [c0_a] := (Keep.refl h0 [c0_a]).wr W2 (Or.inl (List.mem_of_getElem? (i := 0) rfl))
  have N2 := Fr.snoc X2 N1 f3
  obtain ⟨fs, hr, hrun, hended, hW, hsame⟩ := X2.leave (v := none) (fun _ => rfl)
  refine ⟨_, _, castTop (ef6_RI m c0_a p0) ?_, hrun, hended, _, _, rfl, ?_, ⟨_, rfl⟩, hW, hsame.mono (by decide) (by decide)⟩
  · show Steps p.tables e below (s₁.setTop (mkF m 0 #[.val (.ref c0_a), .val (.int p0)] [])) _
    refine XS.aloadN X0.here hx rfl (hb hby d6_0) rfl rfl ?_
    show Steps p.tables e below (s₁.setTop (mkF m 1 #[.val (.ref c0_a), .val (.int p0)] [(.ref c0_a)])) _
    refine st1.trans ?_
    refine XS.aloadN X1.here hx rfl (hb hby d6_4) rfl rfl ?_
    refine XS.iloadN X1.here hx rfl (hb hby d6_5) rfl ?_
    show Steps p.tables e below (T1.setTop (mkF m 6 #[.val (.ref c0_a), .val (.int p0)] [(.int p0), (.ref c0_a)])) _
    refine st2 _ ?_
    show Steps p.tables e below (T2.setTop (mkF m 9 #[.val (.ref c0_a), .val (.int p0)] [])) _
    exact X2.returnOut hx Bd.returns (hb hby d6_9) hr
  · show Q6_30 Z c0_a p0 h0 n0 _ T2.heap _
    rw [e2]
    exact ⟨rfl, N2, KK2, Fw2⟩
theorem pd_3 : parseMethodDescriptor "(I)V" = some ⟨[.int], none⟩ := by decide +kernel
theorem tw_34 {a0 : Array Value} {Z : State} (hw : ∀ d ∈ tables_1, d.before a0 Z = true) : (Jvm.Cond.instanceMethod ({ cls := "java/lang/Integer", name := "<init>", desc := "(I)V" } : Jvm.MethodName)).before a0 Z = true := hw _ (List.mem_of_getElem? (i := 34) rfl)
theorem d5_31 : decode jdk_33_method_22_code 31 = .ok (.areturn, 1) := by decide +kernel
abbrev R_3_1_1_38 : Room := { frames := 3, cells := 1, slots := 1, locals := 38 }
abbrev M_5 : MethodName := ⟨"java/lang/Integer", "valueOf", "(I)Ljava/lang/Integer;"⟩
theorem ef5_I (m : MethodId) (x0 : Int32) : entryFrame m #[(.int x0)] 1 = mkF m 0 #[.val (.int x0)] [] := by first | (simp [entryFrame, mkF, argsToLocals, Value.category]; done) | rfl
def Q5_32 (Z : State) (p0 : Int32) (h0 : Heap) (n0 : Nat) (v : Option Value) (h : Heap) (L : List Loc) : Prop := ∃ (b27 : Addr), v = (some (.ref b27)) ∧ Fr n0 L ∧ Keep h0 h [] ∧ h0.size ≤ b27 ∧ E_2 Z h b27 ∧ F_2 Z h b27 (.int p0)
set_option maxRecDepth 65536 in
set_option maxHeartbeats 40000000 in
theorem rm5_31 (l : Launch) (Z : State) (a0 : Array Value) (hw : ∀ d ∈ tables_1, d.before a0 Z = true) (ws : List Jvm.Cond) (p0 : Int32) (h0 : Heap) (n0 : Nat) (Z0 : n0 ≤ h0.size) (f1 : p0 < (-128 : Int32)) :
    MetFree l M_5 (head1 (Jvm.Cond.code M_5 jdk_33_method_22_code 1 (some (.object "java/lang/Integer")) :: ws) R_3_1_1_38) (fun a U => a = #[(.int p0)] ∧ Z.Warmed39 U.vm ∧ U.heap = h0) (fun _ _ _ _ _ => True) (fun _ U o U' => ∃ v L, o = .returned v ∧ Q5_32 Z p0 h0 n0 v U'.heap L ∧ FrameEnd U o U' L R_3_1_1_38.cells R_3_1_1_38.slots) := by
  refine MetFree.of_bodySF (plainFor_of_name pn_java_lang_Integer) hisR ?_
  intro p e s m args below meth c s₁ Bd hml0 hP hK
  obtain ⟨rfl, hZ, hh⟩ := hP
  have hx := Bd.exec
  have hby := Bd.bytes
  have hml : c.maxLocals = 1 := hml0
  have hown : s.vm.findClass "java/lang/Integer" = some m.cls := findClass_of_methodNamed Bd.named
  have hnm := (name_of_methodNamed Bd.named Bd.method).1
  have X0 : Stand p l e R_3_1_1_38 s m #[(.int p0)] below meth c s₁ [] 0 0 := Stand.of_body Bd
  have e0 : s₁.heap = h0 := by rw [← hh, Bd.state]; rfl
  have N0 := Fr.nil n0
  obtain ⟨T1, h1, X1, e1, E1, A1, D1, -, st1⟩ := newO X0 hx hZ hown (tw_31 hw) (tw_32 hw) (tw_27 hw) e0 (g := (mkF m 23 #[.val (.int p0)] [])) rfl (hb hby d5_23) (by decide) (by decide)
  obtain ⟨b27, g1⟩ : ∃ z, z = h0.size := ⟨_, rfl⟩
  rw [← g1] at A1 D1 st1
  have sz_b27 : h0.size ≤ b27 := Nat.le_trans (Nat.le_refl _) (Nat.le_of_eq g1.symm)
  have g_b27 : n0 ≤ b27 := Nat.le_trans Z0 sz_b27
  have KK1 : Keep h0 h1 [] := (Keep.refl h0 []).ext E1
  have F1_45 : F_2 Z h1 b27 (.int 0) := D1 (Or.inr (tw_45 hw)) (ty := .int) (by decide)
  -- pc 28: java/lang/Integer.<init>
  obtain ⟨_, _, ⟨T2, L2, k2, n2⟩, -, X2, ⟨Lc2, hQ2, l2, y2, z2⟩, st2⟩ := X1.specialBack hx (y := M_4) rfl hown (mvT hZ (tw_33 hw)) (mvT hZ (tw_34 hw)) (mvT hZ (tw_36 hw)) (by decide) (backOf (W := 1) (rm6_29 l Z a0 hw [] b27 p0 h1 n0 (Nat.le_trans Z0 KK1.1) F1_45 A1 g_b27) hZ (tw_36 hw) (tw_27 hw) (by decide) (by decide)) (g := (mkF m 28 #[.val (.int p0)] [(.int p0), (.ref b27), (.ref b27)])) rfl (by rw [hml]; rfl) (Steps.refl _) (a := b27) (argsL := [(.int p0)]) (rest := [(.ref b27)]) (lenOf pd_3 rfl) rfl (by show 2 * 0 + _ ≤ _; exact Nat.le_of_eq rfl) (hb hby d5_28) (fun _ _ => ⟨rfl, e1, (by decide : 1 + 0 ≤ _), (by decide : 1 + 0 ≤ _)⟩)
  dsimp only [Pt.U, Pt.locs, Pt.cells, Pt.slots] at X2 l2 y2 z2 st2 hQ2
  subst l2 y2 z2
  obtain ⟨rfl, Nq2, K2, o2_0⟩ := hQ2
  have N2 := Fr.app N0 Nq2
  have KK2 : Keep h0 T2.heap [] := KK1.trans K2 (fun x hx => (List.mem_cons.mp hx).elim (fun q => q ▸ (Or.inr sz_b27)) (fun hx => nomatch hx))
  have u3 : E_2 Z T2.heap b27 := Exa.keep A1 K2
  obtain ⟨fs, hr, hrun, hended, hW, hsame⟩ := X2.leave (v := (some (.ref b27))) (fun h => by rw [Bd.returns] at h; cases h)
  refine ⟨_, _, castTop (ef5_I m p0) ?_, hrun, hended, _, _, rfl, ?_, ⟨_, rfl⟩, hW, hsame.mono (by decide) (by decide)⟩
  · show Steps p.tables e below (s₁.setTop (mkF m 0 #[.val (.int p0)] [])) _
    refine XS.iloadN X0.here hx rfl (hb hby d5_0) rfl ?_
    refine XS.bipush X0.here hx rfl (hb hby d5_1) ?_
    refine XS.icmpYes X0.here hx rfl (pc0 := 3) (pc' := 23) rfl (hb hby d5_3) rfl (tlt (f1 : p0 < (-128 : Int32))).1 (by decide) (by decide) ?_
    show Steps p.tables e below (s₁.setTop (mkF m 23 #[.val (.int p0)] [])) _
    refine st1 _ ?_
    refine XS.dup X1.here hx rfl (hb hby d5_26) rfl rfl ?_
    refine XS.iloadN X1.here hx rfl (hb hby d5_27) rfl ?_
    show Steps p.tables e below (T1.setTop (mkF m 28 #[.val (.int p0)] [(.int p0), (.ref b27), (.ref b27)])) _
    refine st2.trans ?_
    show Steps p.tables e below (T2.setTop (mkF m 31 #[.val (.int p0)] [(.ref b27)])) _
    jvm_step X2.here [X2.here.top, hx, (hb hby d5_31), X2.method', Bd.returns, Value.isRef, FieldType.isReference]
    first | (intro acts; rw [hr _ acts rfl rfl rfl]) | rw [hr _ _ rfl rfl rfl]
    exact Steps.refl _
  · show Q5_32 Z p0 h0 n0 _ T2.heap _
    exact ⟨b27, rfl, N2, KK2, sz_b27, u3, o2_0⟩
theorem d5_6 : decode jdk_33_method_22_code 6 = .ok (.iload_n 0, 1) := by decide +kernel
theorem d5_7 : decode jdk_33_method_22_code 7 = .ok (.getstatic 191, 3) := by decide +kernel
theorem tw_29 {a0 : Array Value} {Z : State} (hw : ∀ d ∈ tables_1, d.before a0 Z = true) : (Jvm.Cond.fieldLink "java/lang/Integer" (191 : Nat) "java/lang/Integer$IntegerCache" "high" "I").before a0 Z = true := hw _ (List.mem_of_getElem? (i := 29) rfl)
theorem d5_10 : decode jdk_33_method_22_code 10 = .ok (.if_icmp .gt 13, 3) := by decide +kernel
def Q5_35 (Z : State) (p0 : Int32) (h0 : Heap) (n0 : Nat) (v : Option Value) (h : Heap) (L : List Loc) : Prop := ∃ (b33 : Addr), v = (some (.ref b33)) ∧ Fr n0 L ∧ Keep h0 h [] ∧ h0.size ≤ b33 ∧ E_2 Z h b33 ∧ F_2 Z h b33 (.int p0)
set_option maxRecDepth 65536 in
set_option maxHeartbeats 40000000 in
theorem rm5_34 (l : Launch) (Z : State) (a0 : Array Value) (hw : ∀ d ∈ tables_1, d.before a0 Z = true) (ws : List Jvm.Cond) (p0 : Int32) (h0 : Heap) (n0 : Nat) (Z0 : n0 ≤ h0.size) (f1 : ¬ (p0 < (-128 : Int32))) (f2 : S_0 Z h0 (.int 127)) (f3 : (127 : Int32) < p0) :
    MetFree l M_5 (head1 (Jvm.Cond.code M_5 jdk_33_method_22_code 1 (some (.object "java/lang/Integer")) :: ws) R_3_1_1_38) (fun a U => a = #[(.int p0)] ∧ Z.Warmed39 U.vm ∧ U.heap = h0) (fun _ _ _ _ _ => True) (fun _ U o U' => ∃ v L, o = .returned v ∧ Q5_35 Z p0 h0 n0 v U'.heap L ∧ FrameEnd U o U' L R_3_1_1_38.cells R_3_1_1_38.slots) := by
  refine MetFree.of_bodySF (plainFor_of_name pn_java_lang_Integer) hisR ?_
  intro p e s m args below meth c s₁ Bd hml0 hP hK
  obtain ⟨rfl, hZ, hh⟩ := hP
  have hx := Bd.exec
  have hby := Bd.bytes
  have hml : c.maxLocals = 1 := hml0
  have hown : s.vm.findClass "java/lang/Integer" = some m.cls := findClass_of_methodNamed Bd.named
  have hnm := (name_of_methodNamed Bd.named Bd.method).1
  have X0 : Stand p l e R_3_1_1_38 s m #[(.int p0)] below meth c s₁ [] 0 0 := Stand.of_body Bd
  have e0 : s₁.heap = h0 := by rw [← hh, Bd.state]; rfl
  have N0 := Fr.nil n0
  obtain ⟨T1, X1, e1, st1⟩ := getS2 X0 hx hZ hown (host := "") (Or.inl (tw_29 hw)) Via.refl e0 f2 (g := (mkF m 7 #[.val (.int p0)] [(.int p0)])) rfl (hb hby d5_7)
  obtain ⟨T2, h2, X2, e2, E2, A2, D2, -, st2⟩ := newO X1 hx hZ hown (tw_31 hw) (tw_32 hw) (tw_27 hw) e1 (g := (mkF m 23 #[.val (.int p0)] [])) rfl (hb hby d5_23) (by decide) (by decide)
  obtain ⟨b33, g2⟩ : ∃ z, z = h0.size := ⟨_, rfl⟩
  rw [← g2] at A2 D2 st2
  have sz_b33 : h0.size ≤ b33 := Nat.le_trans (Nat.le_refl _) (Nat.le_of_eq g2.symm)
  have g_b33 : n0 ≤ b33 := Nat.le_trans Z0 sz_b33
  have KK2 : Keep h0 h2 [] := (Keep.refl h0 []).ext E2
  have F2_45 : F_2 Z h2 b33 (.int 0) := D2 (Or.inr (tw_45 hw)) (ty := .int) (by decide)
  -- pc 28: java/lang/Integer.<init>
  obtain ⟨_, _, ⟨T3, L3, k3, n3⟩, -, X3, ⟨Lc3, hQ3, l3, y3, z3⟩, st3⟩ := X2.specialBack hx (y := M_4) rfl hown (mvT hZ (tw_33 hw)) (mvT hZ (tw_34 hw)) (mvT hZ (tw_36 hw)) (by decide) (backOf (W := 1) (rm6_29 l Z a0 hw [] b33 p0 h2 n0 (Nat.le_trans Z0 KK2.1) F2_45 A2 g_b33) hZ (tw_36 hw) (tw_27 hw) (by decide) (by decide)) (g := (mkF m 28 #[.val (.int p0)] [(.int p0), (.ref b33), (.ref b33)])) rfl (by rw [hml]; rfl) (Steps.refl _) (a := b33) (argsL := [(.int p0)]) (rest := [(.ref b33)]) (lenOf pd_3 rfl) rfl (by show 2 * 0 + _ ≤ _; exact Nat.le_of_eq rfl) (hb hby d5_28) (fun _ _ => ⟨rfl, e2, (by decide : 1 + 0 ≤ _), (by decide : 1 + 0 ≤ _)⟩)
  dsimp only [Pt.U, Pt.locs, Pt.cells, Pt.slots] at X3 l3 y3 z3 st3 hQ3
  subst l3 y3 z3
  obtain ⟨rfl, Nq3, K3, o3_0⟩ := hQ3
  have N3 := Fr.app N0 Nq3
  have KK3 : Keep h0 T3.heap [] := KK2.trans K3 (fun x hx => (List.mem_cons.mp hx).elim (fun q => q ▸ (Or.inr sz_b33)) (fun hx => nomatch hx))
  have u4 : E_2 Z T3.heap b33 := Exa.keep A2 K3
  obtain ⟨fs, hr, hrun, hended, hW, hsame⟩ := X3.leave (v := (some (.ref b33))) (fun h => by rw [Bd.returns] at h; cases h)
  refine ⟨_, _, castTop (ef5_I m p0) ?_, hrun, hended, _, _, rfl, ?_, ⟨_, rfl⟩, hW, hsame.mono (by decide) (by decide)⟩
  · show Steps p.tables e below (s₁.setTop (mkF m 0 #[.val (.int p0)] [])) _
    refine XS.iloadN X0.here hx rfl (hb hby d5_0) rfl ?_
    refine XS.bipush X0.here hx rfl (hb hby d5_1) ?_
    refine XS.icmpNo X0.here hx rfl (hb hby d5_3) rfl (flt (f1 : ¬ (p0 < (-128 : Int32)))).1 ?_
    refine XS.iloadN X0.here hx rfl (hb hby d5_6) rfl ?_
    show Steps p.tables e below (s₁.setTop (mkF m 7 #[.val (.int p0)] [(.int p0)])) _
    refine st1 _ ?_
    refine XS.icmpYes X1.here hx rfl (pc0 := 10) (pc' := 23) rfl (hb hby d5_10) rfl (tlt (f3 : (127 : Int32) < p0)).2.2.1 (by decide) (by decide) ?_
    show Steps p.tables e below (T1.setTop (mkF m 23 #[.val (.int p0)] [])) _
    refine st2 _ ?_
    refine XS.dup X2.here hx rfl (hb hby d5_26) rfl rfl ?_
    refine XS.iloadN X2.here hx rfl (hb hby d5_27) rfl ?_
    show Steps p.tables e below (T2.setTop (mkF m 28 #[.val (.int p0)] [(.int p0), (.ref b33), (.ref b33)])) _
    refine st3.trans ?_
    show Steps p.tables e below (T3.setTop (mkF m 31 #[.val (.int p0)] [(.ref b33)])) _
    jvm_step X3.here [X3.here.top, hx, (hb hby d5_31), X3.method', Bd.returns, Value.isRef, FieldType.isReference]
    first | (intro acts; rw [hr _ acts rfl rfl rfl]) | rw [hr _ _ rfl rfl rfl]
    exact Steps.refl _
  · show Q5_35 Z p0 h0 n0 _ T3.heap _
    exact ⟨b33, rfl, N3, KK3, sz_b33, u4, o3_0⟩
theorem d5_13 : decode jdk_33_method_22_code 13 = .ok (.getstatic 195, 3) := by decide +kernel
theorem tw_49 {a0 : Array Value} {Z : State} (hw : ∀ d ∈ tables_1, d.before a0 Z = true) : (Jvm.Cond.fieldLink "java/lang/Integer" (195 : Nat) "java/lang/Integer$IntegerCache" "cache" "[Ljava/lang/Integer;").before a0 Z = true := hw _ (List.mem_of_getElem? (i := 49) rfl)
theorem d5_16 : decode jdk_33_method_22_code 16 = .ok (.iload_n 0, 1) := by decide +kernel
theorem d5_17 : decode jdk_33_method_22_code 17 = .ok (.sipush 128, 3) := by decide +kernel
theorem d5_20 : decode jdk_33_method_22_code 20 = .ok (.iadd, 1) := by decide +kernel
theorem d5_21 : decode jdk_33_method_22_code 21 = .ok (.aaload, 1) := by decide +kernel
theorem d5_22 : decode jdk_33_method_22_code 22 = .ok (.areturn, 1) := by decide +kernel
set_option maxRecDepth 65536 in
set_option maxHeartbeats 40000000 in
theorem rm5_36 (l : Launch) (Z : State) (a0 : Array Value) (hw : ∀ d ∈ tables_1, d.before a0 Z = true) (ws : List Jvm.Cond) (p0 : Int32) (a_cache : Addr) (vb : Addr) (h0 : Heap) (n0 : Nat) (Z0 : n0 ≤ h0.size) (f1 : ¬ (p0 < (-128 : Int32))) (f2 : S_0 Z h0 (.int 127)) (f3 : ¬ ((127 : Int32) < p0)) (f4 : S_1 Z h0 (.ref a_cache)) (f5 : ∃ cl : Cell, Arr Z h0 a_cache cl (.object "java/lang/Integer") ∧ ¬ ((p0 + (128 : Int32)) < 0 ∨ cl.slots.size ≤ ((p0 + (128 : Int32))).toNatClampNeg) ∧ cl.slots[((p0 + (128 : Int32))).toNatClampNeg]? = some (.ref vb)) :
    MetFree l M_5 (head1 (Jvm.Cond.code M_5 jdk_33_method_22_code 1 (some (.object "java/lang/Integer")) :: ws) R_3_1_1_38) (fun a U => a = #[(.int p0)] ∧ Z.Warmed39 U.vm ∧ U.heap = h0) (fun _ _ _ _ _ => True) (fun _ U o U' => ∃ v L, o = .returned v ∧ QP (some (.ref vb)) h0 n0 v U'.heap L ∧ FrameEnd U o U' L R_3_1_1_38.cells R_3_1_1_38.slots) := by
  refine MetFree.of_bodySF (plainFor_of_name pn_java_lang_Integer) hisR ?_
  intro p e s m args below meth c s₁ Bd hml0 hP hK
  obtain ⟨rfl, hZ, hh⟩ := hP
  have hx := Bd.exec
  have hby := Bd.bytes
  have hml : c.maxLocals = 1 := hml0
  have hown : s.vm.findClass "java/lang/Integer" = some m.cls := findClass_of_methodNamed Bd.named
  have hnm := (name_of_methodNamed Bd.named Bd.method).1
  have X0 : Stand p l e R_3_1_1_38 s m #[(.int p0)] below meth c s₁ [] 0 0 := Stand.of_body Bd
  have e0 : s₁.heap = h0 := by rw [← hh, Bd.state]; rfl
  have N0 := Fr.nil n0
  obtain ⟨T1, X1, e1, st1⟩ := getS2 X0 hx hZ hown (host := "") (Or.inl (tw_29 hw)) Via.refl e0 f2 (g := (mkF m 7 #[.val (.int p0)] [(.int p0)])) rfl (hb hby d5_7)
  obtain ⟨T2, X2, e2, st2⟩ := getS2 X1 hx hZ hown (host := "") (Or.inl (tw_49 hw)) Via.refl e1 f4 (g := (mkF m 13 #[.val (.int p0)] [])) rfl (hb hby d5_13)
  have va3 := f5
  obtain ⟨cl3, Ar3, hin3, hat3⟩ := va3
  obtain ⟨fs, hr, hrun, hended, hW, hsame⟩ := X2.leave (v := (some (.ref vb))) (fun h => by rw [Bd.returns] at h; cases h)
  refine ⟨_, _, castTop (ef5_I m p0) ?_, hrun, hended, _, _, rfl, ?_, ⟨_, rfl⟩, hW, hsame.mono (by decide) (by decide)⟩
  · show Steps p.tables e below (s₁.setTop (mkF m 0 #[.val (.int p0)] [])) _
    refine XS.iloadN X0.here hx rfl (hb hby d5_0) rfl ?_
    refine XS.bipush X0.here hx rfl (hb hby d5_1) ?_
    refine XS.icmpNo X0.here hx rfl (hb hby d5_3) rfl (flt (f1 : ¬ (p0 < (-128 : Int32)))).1 ?_
    refine XS.iloadN X0.here hx rfl (hb hby d5_6) rfl ?_
    show Steps p.tables e below (s₁.setTop (mkF m 7 #[.val (.int p0)] [(.int p0)])) _
    refine st1 _ ?_
    refine XS.icmpNo X1.here hx rfl (hb hby d5_10) rfl (flt (f3 : ¬ ((127 : Int32) < p0))).2.2.1 ?_
    show Steps p.tables e below (T1.setTop (mkF m 13 #[.val (.int p0)] [])) _
    refine st2 _ ?_
    refine XS.iloadN X2.here hx rfl (hb hby d5_16) rfl ?_
    refine XS.sipush X2.here hx rfl (hb hby d5_17) ?_
    show Steps p.tables e below (T2.setTop (mkF m 20 #[.val (.int p0)] [(.int 128), (.int p0), (.ref a_cache)])) _
    refine XS.iadd X2.here hx rfl (hb hby d5_20) rfl ?_
    show Steps p.tables e below (T2.setTop (mkF m 21 #[.val (.int p0)] [(.int (p0 + (128 : Int32))), (.ref a_cache)])) _
    refine X2.aaload hx (j := (p0 + (128 : Int32))) (v := (.ref vb)) (by rw [e2]; exact Ar3.1) (State.isArrayOf_alike hZ.alike Ar3.2.1) rfl Ar3.2.2 hin3 hat3 (g := (mkF m 21 #[.val (.int p0)] [(.int (p0 + (128 : Int32))), (.ref a_cache)])) rfl rfl (hb hby d5_21) _ ?_
    show Steps p.tables e below (T2.setTop (mkF m 22 #[.val (.int p0)] [(.ref vb)])) _
    jvm_step X2.here [X2.here.top, hx, (hb hby d5_22), X2.method', Bd.returns, Value.isRef, FieldType.isReference]
    first | (intro acts; rw [hr _ acts rfl rfl rfl]) | rw [hr _ _ rfl rfl rfl]
    exact Steps.refl _
  · show QP (some (.ref vb)) h0 n0 _ T2.heap _
    rw [e2]
    exact ⟨rfl, N0, rfl⟩
theorem rmB_37 (l : Launch) (Z : State) (a0 : Array Value) (hw : ∀ d ∈ tables_1, d.before a0 Z = true) (ws : List Jvm.Cond) (p0 : Int32) (a_cache : Addr) (h0 : Heap) (n0 : Nat) (Z0 : n0 ≤ h0.size) (f1 : S_0 Z h0 (.int 127)) (f2 : S_1 Z h0 (.ref a_cache)) (f3 : OwnAll Z h0 a_cache "java/lang/Integer") :
    MetFree l M_5 (head1 (Jvm.Cond.code M_5 jdk_33_method_22_code 1 (some (.object "java/lang/Integer")) :: ws) R_3_1_1_38) (fun a U => a = #[(.int p0)] ∧ Z.Warmed39 U.vm ∧ U.heap = h0) (fun _ _ _ _ _ => True) (fun _ U o U' => ∃ v L, o = .returned v ∧ QB Z "java/lang/Integer" h0 n0 v U'.heap L ∧ FrameEnd U o U' L R_3_1_1_38.cells R_3_1_1_38.slots) := by
  by_cases hp0 : p0 < (-128 : Int32)
  · exact own_weakQ (fun v h L q => by obtain ⟨b, q1, q2, q3, _, q4, _⟩ := q; exact ⟨b, q1, q2, q3, q4⟩) (rm5_31 l Z a0 hw ws p0 h0 n0 Z0 hp0)
  by_cases hp1 : (127 : Int32) < p0
  · exact own_weakQ (fun v h L q => by obtain ⟨b, q1, q2, q3, _, q4, _⟩ := q; exact ⟨b, q1, q2, q3, q4⟩) (rm5_34 l Z a0 hw ws p0 h0 n0 Z0 hp0 f1 hp1)
  obtain ⟨cl, A1, A2, A3⟩ := f3
  have hi := own_iidx p0 hp0 hp1
  obtain ⟨vb, hb, hE⟩ := A3 _ hi.2
  have hL : ∃ cl : Cell, Arr Z h0 a_cache cl (.object "java/lang/Integer") ∧ ¬ ((p0 + (128 : Int32)) < 0 ∨ cl.slots.size ≤ ((p0 + (128 : Int32))).toNatClampNeg) ∧ cl.slots[((p0 + (128 : Int32))).toNatClampNeg]? = some (.ref vb) := ⟨cl, A1, by rw [A2]; exact fun q => q.elim hi.1 (fun z => absurd hi.2 (Nat.not_lt.mpr z)), hb⟩
  exact own_weakQ (fun v h L q => by obtain ⟨q1, q2, q3⟩ := q; subst q3; exact ⟨vb, q1, q2, Keep.refl _ _, hE⟩) (rm5_36 l Z a0 hw ws p0 a_cache vb h0 n0 Z0 hp0 f1 hp1 f2 hL)
theorem pd_4 : parseMethodDescriptor "(I)Ljava/lang/Integer;" = some ⟨[.int], some (.object "java/lang/Integer")⟩ := by decide +kernel
theorem tw_26 {a0 : Array Value} {Z : State} (hw : ∀ d ∈ tables_1, d.before a0 Z = true) : (Jvm.Cond.static ({ cls := "java/lang/Integer", name := "valueOf", desc := "(I)Ljava/lang/Integer;" } : Jvm.MethodName)).before a0 Z = true := hw _ (List.mem_of_getElem? (i := 26) rfl)
theorem tw_46 {a0 : Array Value} {Z : State} (hw : ∀ d ∈ tables_1, d.before a0 Z = true) : (Jvm.Cond.superclass "java/lang/Integer" "java/lang/Number").before a0 Z = true := hw _ (List.mem_of_getElem? (i := 46) rfl)
theorem tw_47 {a0 : Array Value} {Z : State} (hw : ∀ d ∈ tables_1, d.before a0 Z = true) : (Jvm.Cond.superclass "java/lang/Number" "java/lang/Object").before a0 Z = true := hw _ (List.mem_of_getElem? (i := 47) rfl)
theorem tw_48 {a0 : Array Value} {Z : State} (hw : ∀ d ∈ tables_1, d.before a0 Z = true) : (Jvm.Cond.noSuperclass "java/lang/Object").before a0 Z = true := hw _ (List.mem_of_getElem? (i := 48) rfl)
set_option maxRecDepth 65536 in
set_option maxHeartbeats 40000000 in
theorem rm4_40 (l : Launch) (Z : State) (a0 : Array Value) (hw : ∀ d ∈ tables_1, d.before a0 Z = true) (ws : List Jvm.Cond) (c0_a : Addr) (c1_a : Addr) (h0 : Heap) (n0 : Nat) (Z0 : n0 ≤ h0.size) (f1 : E_2 Z h0 c1_a) :
    MetFree l M_2 (head1 (Jvm.Cond.code M_2 prog_3_method_4_code 3 (some .boolean) :: ws) R_0_0_0_0) (fun a U => a = #[(.ref c0_a), (.ref c1_a)] ∧ Z.Warmed39 U.vm ∧ U.heap = h0) (fun _ _ _ _ _ => True) (fun _ U o U' => ∃ v L, o = .returned v ∧ QP (some (.int 0)) h0 n0 v U'.heap L ∧ FrameEnd U o U' L R_0_0_0_0.cells R_0_0_0_0.slots) := by
  refine MetFree.of_bodySF (plainFor_of_name pn_hexwright_board_Hex) hisR ?_
  intro p e s m args below meth c s₁ Bd hml0 hP hK
  obtain ⟨rfl, hZ, hh⟩ := hP
  have hx := Bd.exec
  have hby := Bd.bytes
  have hml : c.maxLocals = 3 := hml0
  have hown : s.vm.findClass "hexwright/board/Hex" = some m.cls := findClass_of_methodNamed Bd.named
  have hnm := (name_of_methodNamed Bd.named Bd.method).1
  have X0 : Stand p l e R_0_0_0_0 s m #[(.ref c0_a), (.ref c1_a)] below meth c s₁ [] 0 0 := Stand.of_body Bd
  have e0 : s₁.heap = h0 := by rw [← hh, Bd.state]; rfl
  have N0 := Fr.nil n0
  obtain ⟨T1, X1, e1, st1⟩ := instNo X0 hx hZ hown (tw_23 hw) e0 f1 (own_no (tw_46 hw) (tw_1 hw) (NS.step (tw_46 hw) (NS.step (tw_47 hw) (own_root (tw_48 hw) (tw_1 hw) (by decide)) (by decide)) (by decide)) (by decide)) (g := (mkF m 1 #[.val (.ref c0_a), .val (.ref c1_a), .unset] [(.ref c1_a)])) rfl rfl (hb hby d4_1)
  obtain ⟨fs, hr, hrun, hended, hW, hsame⟩ := X1.leave (v := (some (.int 0))) (fun h => by rw [Bd.returns] at h; cases h)
  refine ⟨_, _, castTop (ef4_RR m c0_a c1_a) ?_, hrun, hended, _, _, rfl, ?_, ⟨_, rfl⟩, hW, hsame.mono (by decide) (by decide)⟩
  · show Steps p.tables e below (s₁.setTop (mkF m 0 #[.val (.ref c0_a), .val (.ref c1_a), .unset] [])) _
    refine XS.aloadN X0.here hx rfl (hb hby d4_0) rfl rfl ?_
    show Steps p.tables e below (s₁.setTop (mkF m 1 #[.val (.ref c0_a), .val (.ref c1_a), .unset] [(.ref c1_a)])) _
    refine st1 _ ?_
    refine XS.ifYes X1.here hx rfl (pc0 := 4) (pc' := 38) rfl (hb hby d4_4) rfl (by decide) (by decide) (by decide) ?_
    refine XS.iconst X1.here hx rfl (hb hby d4_38) ?_
    show Steps p.tables e below (T1.setTop (mkF m 39 #[.val (.ref c0_a), .val (.ref c1_a), .unset] [(.int 0)])) _
    exact retN X1 hx (t := .boolean) Bd.returns (by simp) (hb hby d4_39) hr
  · show QP (some (.int 0)) h0 n0 _ T1.heap _
    rw [e1]
    exact ⟨rfl, N0, rfl⟩
set_option maxRecDepth 65536 in
set_option maxHeartbeats 40000000 in
theorem rm0_41 (l : Launch) (Z : State) (a0 : Array Value) (hw : ∀ d ∈ tables_1, d.before a0 Z = true) (ws : List Jvm.Cond) (p0 : Int32) (p1 : Int32) (p2 : Int32) (p3 : Int32) (p4 : Int32) (a_cache : Addr) (h0 : Heap) (n0 : Nat) (Z0 : n0 ≤ h0.size) (f1 : (p4 &&& (1 : Int32)) = (0 : Int32)) (f2 : (p4 &&& (2 : Int32)) = (0 : Int32)) (f3 : (((p4.toUInt32 >>> ((2 : Int32) &&& 31).toUInt32).toInt32) &&& (3 : Int32)) = (2 : Int32)) (f4 : S_0 Z h0 (.int 127)) (f5 : S_1 Z h0 (.ref a_cache)) (f6 : OwnAll Z h0 a_cache "java/lang/Integer") (f7 : E_0 Z h0 a_cache) :
    MetFree l x (head1 (Jvm.Cond.code x code maxLocals ret :: ws) room_1) (fun a U => a = #[(.int p0), (.int p1), (.int p2), (.int p3), (.int p4)] ∧ Z.Warmed39 U.vm ∧ U.heap = h0) (fun _ _ _ _ _ => True) (fun _ U o U' => ∃ v L, o = .returned v ∧ QT n0 v U'.heap L ∧ FrameEnd U o U' L room_1.cells room_1.slots) := by
  refine MetFree.of_bodySF (plainFor_of_name pn_hexwright_board_HexEqualsPinLaw) hisR ?_
  intro p e s m args below meth c s₁ Bd hml0 hP hK
  obtain ⟨rfl, hZ, hh⟩ := hP
  have hx := Bd.exec
  have hby := Bd.bytes
  have hml : c.maxLocals = 11 := hml0
  have hown : s.vm.findClass "hexwright/board/HexEqualsPinLaw" = some m.cls := findClass_of_methodNamed Bd.named
  have hnm := (name_of_methodNamed Bd.named Bd.method).1
  have X0 : Stand p l e room_1 s m #[(.int p0), (.int p1), (.int p2), (.int p3), (.int p4)] below meth c s₁ [] 0 0 := Stand.of_body Bd
  have e0 : s₁.heap = h0 := by rw [← hh, Bd.state]; rfl
  have N0 := Fr.nil n0
  obtain ⟨T1, h1, X1, e1, E1, A1, D1, -, st1⟩ := newO X0 hx hZ hown (tw_0 hw) (tw_1 hw) (tw_2 hw) e0 (g := (mkF m 36 #[.val (.int p0), .val (.int p1), .val (.int p2), .val (.int p3), .val (.int p4), .val (.int p2), .val (.int p3), .val (.int 2), .unset, .unset, .unset] [])) rfl (hb hby at_36) (by decide) (by decide)
  obtain ⟨b25, g1⟩ : ∃ z, z = h0.size := ⟨_, rfl⟩
  rw [← g1] at A1 D1 st1
  have sz_b25 : h0.size ≤ b25 := Nat.le_trans (Nat.le_refl _) (Nat.le_of_eq g1.symm)
  have g_b25 : n0 ≤ b25 := Nat.le_trans Z0 sz_b25
  have KK1 : Keep h0 h1 [] := (Keep.refl h0 []).ext E1
  have F1_15 : F_0 Z h1 b25 (.int 0) := D1 (Or.inr (tw_15 hw)) (ty := .int) (by decide)
  have F1_17 : F_1 Z h1 b25 (.int 0) := D1 (Or.inr (tw_17 hw)) (ty := .int) (by decide)
  -- pc 42: hexwright/board/Hex.<init>
  obtain ⟨_, _, ⟨T2, L2, k2, n2⟩, -, X2, ⟨Lc2, hQ2, l2, y2, z2⟩, st2⟩ := X1.specialBack hx (y := M_1) rfl hown (mvT hZ (tw_3 hw)) (mvT hZ (tw_4 hw)) (mvT hZ (tw_5 hw)) (by decide) (backOf (W := 1) (rm1_3 l Z a0 hw [] b25 p0 p1 h1 n0 (Nat.le_trans Z0 KK1.1) F1_15 A1 g_b25 F1_17) hZ (tw_5 hw) (tw_2 hw) (by decide) (by decide)) (g := (mkF m 42 #[.val (.int p0), .val (.int p1), .val (.int p2), .val (.int p3), .val (.int p4), .val (.int p2), .val (.int p3), .val (.int 2), .unset, .unset, .unset] [(.int p1), (.int p0), (.ref b25), (.ref b25)])) rfl (by rw [hml]; rfl) (Steps.refl _) (a := b25) (argsL := [(.int p0), (.int p1)]) (rest := [(.ref b25)]) (lenOf pd_1 rfl) rfl (by show 2 * 0 + _ ≤ _; exact Nat.le_of_eq rfl) (hb hby at_42) (fun _ _ => ⟨rfl, e1, (by decide : 1 + 0 ≤ _), (by decide : 2 + 0 ≤ _)⟩)
  dsimp only [Pt.U, Pt.locs, Pt.cells, Pt.slots] at X2 l2 y2 z2 st2 hQ2
  subst l2 y2 z2
  obtain ⟨rfl, Nq2, K2, o2_0, o2_1⟩ := hQ2
  have N2 := Fr.app N0 Nq2
  have KK2 : Keep h0 T2.heap [] := KK1.trans K2 (fun x hx => (List.mem_cons.mp hx).elim (fun q => q ▸ (Or.inr sz_b25)) (fun hx => nomatch hx))
  obtain ⟨T3, h3, X3, e3, E3, A3, D3, -, st3⟩ := newO X2 hx hZ hown (tw_0 hw) (tw_1 hw) (tw_2 hw) rfl (g := (mkF m 47 #[.val (.int p0), .val (.int p1), .val (.int p2), .val (.int p3), .val (.int p4), .val (.int p2), .val (.int p3), .val (.int 2), .val (.ref b25), .unset, .unset] [])) rfl (hb hby at_47) (by decide) (by decide)
  obtain ⟨b26, g3⟩ : ∃ z, z = T2.heap.size := ⟨_, rfl⟩
  rw [← g3] at A3 D3 st3
  have sz_b26 : h0.size ≤ b26 := Nat.le_trans KK2.1 (Nat.le_of_eq g3.symm)
  have g_b26 : n0 ≤ b26 := Nat.le_trans Z0 sz_b26
  have KK3 : Keep h0 h3 [] := KK2.ext E3
  have F3_15 : F_0 Z h3 b26 (.int 0) := D3 (Or.inr (tw_15 hw)) (ty := .int) (by decide)
  have F3_17 : F_1 Z h3 b26 (.int 0) := D3 (Or.inr (tw_17 hw)) (ty := .int) (by decide)
  -- pc 55: hexwright/board/Hex.<init>
  obtain ⟨_, _, ⟨T4, L4, k4, n4⟩, -, X4, ⟨Lc4, hQ4, l4, y4, z4⟩, st4⟩ := X3.specialBack hx (y := M_1) rfl hown (mvT hZ (tw_3 hw)) (mvT hZ (tw_4 hw)) (mvT hZ (tw_5 hw)) (by decide) (backOf (W := 1) (rm1_6 l Z a0 hw [] b26 p2 p3 h3 n0 (Nat.le_trans Z0 KK3.1) F3_15 A3 g_b26 F3_17) hZ (tw_5 hw) (tw_2 hw) (by decide) (by decide)) (g := (mkF m 55 #[.val (.int p0), .val (.int p1), .val (.int p2), .val (.int p3), .val (.int p4), .val (.int p2), .val (.int p3), .val (.int 2), .val (.ref b25), .unset, .unset] [(.int p3), (.int p2), (.ref b26), (.ref b26)])) rfl (by rw [hml]; rfl) (Steps.refl _) (a := b26) (argsL := [(.int p2), (.int p3)]) (rest := [(.ref b26)]) (lenOf pd_1 rfl) rfl (by show 2 * 0 + _ ≤ _; exact Nat.le_of_eq rfl) (hb hby at_55) (fun _ _ => ⟨rfl, e3, (by decide : 2 + 0 ≤ _), (by decide : 4 + 0 ≤ _)⟩)
  dsimp only [Pt.U, Pt.locs, Pt.cells, Pt.slots] at X4 l4 y4 z4 st4 hQ4
  subst l4 y4 z4
  obtain ⟨rfl, Nq4, K4, o4_0, o4_1⟩ := hQ4
  have N4 := Fr.app N2 Nq4
  have KK4 : Keep h0 T4.heap [] := KK3.trans K4 (fun x hx => (List.mem_cons.mp hx).elim (fun q => q ▸ (Or.inr sz_b26)) (fun hx => nomatch hx))
  -- pc 144: java/lang/Integer.valueOf
  have u5 : S_0 Z h1 (.int 127) := Sta.ext E1 f4
  have u6 : S_0 Z T2.heap (.int 127) := own_sta_keep u5 K2 (own_ns (Exa.nostat A1) (fun _ q => nomatch q))
  have u7 : S_0 Z h3 (.int 127) := Sta.ext E3 u6
  have u8 : S_0 Z T4.heap (.int 127) := own_sta_keep u7 K4 (own_ns (Exa.nostat A3) (fun _ q => nomatch q))
  have u9 : S_1 Z h1 (.ref a_cache) := Sta.ext E1 f5
  have u10 : S_1 Z T2.heap (.ref a_cache) := own_sta_keep u9 K2 (own_ns (Exa.nostat A1) (fun _ q => nomatch q))
  have u11 : S_1 Z h3 (.ref a_cache) := Sta.ext E3 u10
  have u12 : S_1 Z T4.heap (.ref a_cache) := own_sta_keep u11 K4 (own_ns (Exa.nostat A3) (fun _ q => nomatch q))
  have u13 : OwnAll Z h1 a_cache "java/lang/Integer" := own_all_ext f6 E1
  have ne14 : a_cache ≠ b25 := Nat.ne_of_lt (Nat.lt_of_lt_of_le (Exa.lt f7) (Nat.le_of_eq g1.symm))
  have u15 : OwnAll Z T2.heap a_cache "java/lang/Integer" := own_all_keep u13 K2 (own_notin ne14 List.not_mem_nil)
  have u16 : OwnAll Z h3 a_cache "java/lang/Integer" := own_all_ext u15 E3
  have u17 : E_0 Z h1 a_cache := Exa.ext E1 f7
  have u18 : E_0 Z T2.heap a_cache := Exa.keep u17 K2
  have ne19 : a_cache ≠ b26 := Nat.ne_of_lt (Nat.lt_of_lt_of_le (Exa.lt u18) (Nat.le_of_eq g3.symm))
  have u20 : OwnAll Z T4.heap a_cache "java/lang/Integer" := own_all_keep u16 K4 (own_notin ne19 List.not_mem_nil)
  obtain ⟨_, _, ⟨T21, L21, k21, n21⟩, -, X21, ⟨Lc21, hQ21, l21, y21, z21⟩, st21⟩ := Jvm.LawKit.callS X4 hx (y := M_5) hown (mvT hZ (tw_25 hw)) (mvT hZ (tw_26 hw)) (mvT hZ (tw_27 hw)) (mvT hZ (tw_28 hw)) (by decide) (backOf (W := 1) (rmB_37 l Z a0 hw [] p0 a_cache T4.heap n0 (Nat.le_trans Z0 KK4.1) u8 u12 u20) hZ (tw_28 hw) (tw_27 hw) (by decide) (by decide)) (g := (mkF m 144 #[.val (.int p0), .val (.int p1), .val (.int p2), .val (.int p3), .val (.int p4), .val (.int p2), .val (.int p3), .val (.int 2), .val (.ref b25), .val (.ref b26), .unset] [(.int p0), (.ref b25)])) rfl (by rw [hml]; rfl) (argsL := [(.int p0)]) (rest := [(.ref b25)]) (lenOf pd_4 rfl) rfl (by show 2 * 0 + _ ≤ _; exact Nat.le_of_eq rfl) (hb hby at_144) (fun _ _ => ⟨rfl, rfl, (by decide : 2 + 1 ≤ _), (by decide : 4 + 1 ≤ _)⟩)
  dsimp only [Pt.U, Pt.locs, Pt.cells, Pt.slots] at X21 l21 y21 z21 st21 hQ21
  subst l21 y21 z21
  obtain ⟨bx39, rfl, Nq21, K21, o21_0⟩ := hQ21
  have N21 := Fr.app N4 Nq21
  have KK21 : Keep h0 T21.heap [] := KK4.trans K21 (fun x hx => nomatch hx)
  -- pc 147: hexwright/board/Hex.equals
  have u23 : E_1 Z T2.heap b25 := Exa.keep A1 K2
  have u24 : E_1 Z h3 b25 := Exa.ext E3 u23
  have u25 : E_1 Z T4.heap b25 := Exa.keep u24 K4
  have u26 : E_1 Z T21.heap b25 := Exa.keep u25 K21
  obtain ⟨cq22, kq22, q22a, q22b, q22c⟩ := isOf hZ rfl u26
  obtain ⟨_, _, ⟨T22, L22, k22, n22⟩, -, X22, ⟨Lc22, hQ22, l22, y22, z22⟩, st22⟩ := X21.virtualBack hx (y := M_2) (z := M_2) hown (mvT hZ (tw_18 hw)) (mvT hZ (tw_19 hw)) (notFace_of_selects (args := #[]) (mvT hZ (tw_21 hw))) (mvT hZ (tw_21 hw)) (mvT hZ (tw_20 hw)) (by decide) (backOf (W := 0) (rm4_40 l Z a0 hw [] b25 bx39 T21.heap n0 (Nat.le_trans Z0 KK21.1) o21_0) hZ (tw_22 hw) (tw_2 hw) (by decide) (by decide)) q22a q22c (g := (mkF m 147 #[.val (.int p0), .val (.int p1), .val (.int p2), .val (.int p3), .val (.int p4), .val (.int p2), .val (.int p3), .val (.int 2), .val (.ref b25), .val (.ref b26), .unset] [(.ref bx39), (.ref b25)])) rfl (by rw [hml]; rfl) (Steps.refl _) (argsL := [(.ref bx39)]) (rest := []) (lenOf pd_2 rfl) rfl (by show 2 * 0 + _ ≤ _; exact Nat.le_of_eq rfl) (hb hby at_147) (fun _ _ => ⟨rfl, rfl, (by decide : 3 + 0 ≤ _), (by decide : 5 + 0 ≤ _)⟩)
  dsimp only [Pt.U, Pt.locs, Pt.cells, Pt.slots] at X22 l22 y22 z22 st22 hQ22
  subst l22 y22 z22
  obtain ⟨rfl, Nq22, e22⟩ := hQ22
  have N22 := Fr.app N21 Nq22
  obtain ⟨fs, hr, hrun, hended, hW, hsame⟩ := X22.leave (v := (some (.int 1))) (fun h => by rw [Bd.returns] at h; cases h)
  refine ⟨_, _, castTop (ef0_IIIII m p0 p1 p2 p3 p4) ?_, hrun, hended, _, _, rfl, ?_, ⟨_, rfl⟩, hW, hsame.mono (by decide) (by decide)⟩
  · show Steps p.tables e below (s₁.setTop (mkF m 0 #[.val (.int p0), .val (.int p1), .val (.int p2), .val (.int p3), .val (.int p4), .unset, .unset, .unset, .unset, .unset, .unset] [])) _
    refine XS.iload X0.here hx rfl (hb hby at_0) rfl ?_
    refine XS.iconst X0.here hx rfl (hb hby at_2) ?_
    show Steps p.tables e below (s₁.setTop (mkF m 3 #[.val (.int p0), .val (.int p1), .val (.int p2), .val (.int p3), .val (.int p4), .unset, .unset, .unset, .unset, .unset, .unset] [(.int 1), (.int p4)])) _
    refine XS.iand X0.here hx rfl (hb hby at_3) rfl ?_
    refine XS.ifYes X0.here hx rfl (pc0 := 4) (pc' := 11) rfl (hb hby at_4) rfl ((if0 _ _).trans (teq (f1 : (p4 &&& (1 : Int32)) = (0 : Int32))).1) (by decide) (by decide) ?_
    refine XS.iloadN X0.here hx rfl (hb hby at_11) rfl ?_
    refine XS.istore X0.here hx rfl (hb hby at_12) rfl (l' := #[.val (.int p0), .val (.int p1), .val (.int p2), .val (.int p3), .val (.int p4), .val (.int p2), .unset, .unset, .unset, .unset, .unset]) rfl ?_
    refine XS.iload X0.here hx rfl (hb hby at_14) rfl ?_
    show Steps p.tables e below (s₁.setTop (mkF m 16 #[.val (.int p0), .val (.int p1), .val (.int p2), .val (.int p3), .val (.int p4), .val (.int p2), .unset, .unset, .unset, .unset, .unset] [(.int p4)])) _
    refine XS.iconst X0.here hx rfl (hb hby at_16) ?_
    show Steps p.tables e below (s₁.setTop (mkF m 17 #[.val (.int p0), .val (.int p1), .val (.int p2), .val (.int p3), .val (.int p4), .val (.int p2), .unset, .unset, .unset, .unset, .unset] [(.int 2), (.int p4)])) _
    refine XS.iand X0.here hx rfl (hb hby at_17) rfl ?_
    refine XS.ifYes X0.here hx rfl (pc0 := 18) (pc' := 25) rfl (hb hby at_18) rfl ((if0 _ _).trans (teq (f2 : (p4 &&& (2 : Int32)) = (0 : Int32))).1) (by decide) (by decide) ?_
    refine XS.iloadN X0.here hx rfl (hb hby at_25) rfl ?_
    refine XS.istore X0.here hx rfl (hb hby at_26) rfl (l' := #[.val (.int p0), .val (.int p1), .val (.int p2), .val (.int p3), .val (.int p4), .val (.int p2), .val (.int p3), .unset, .unset, .unset, .unset]) rfl ?_
    refine XS.iload X0.here hx rfl (hb hby at_28) rfl ?_
    show Steps p.tables e below (s₁.setTop (mkF m 30 #[.val (.int p0), .val (.int p1), .val (.int p2), .val (.int p3), .val (.int p4), .val (.int p2), .val (.int p3), .unset, .unset, .unset, .unset] [(.int p4)])) _
    refine XS.iconst X0.here hx rfl (hb hby at_30) ?_
    show Steps p.tables e below (s₁.setTop (mkF m 31 #[.val (.int p0), .val (.int p1), .val (.int p2), .val (.int p3), .val (.int p4), .val (.int p2), .val (.int p3), .unset, .unset, .unset, .unset] [(.int 2), (.int p4)])) _
    refine XS.iushr X0.here hx rfl (hb hby at_31) rfl ?_
    refine XS.iconst X0.here hx rfl (hb hby at_32) ?_
    show Steps p.tables e below (s₁.setTop (mkF m 33 #[.val (.int p0), .val (.int p1), .val (.int p2), .val (.int p3), .val (.int p4), .val (.int p2), .val (.int p3), .unset, .unset, .unset, .unset] [(.int 3), (.int ((p4.toUInt32 >>> ((2 : Int32) &&& 31).toUInt32).toInt32))])) _
    refine XS.iand X0.here hx rfl (hb hby at_33) rfl ?_
    show Steps p.tables e below (s₁.setTop (mkF m 34 #[.val (.int p0), .val (.int p1), .val (.int p2), .val (.int p3), .val (.int p4), .val (.int p2), .val (.int p3), .unset, .unset, .unset, .unset] [(.int (((p4.toUInt32 >>> ((2 : Int32) &&& 31).toUInt32).toInt32) &&& (3 : Int32)))])) _
    rw [f3]
    refine XS.istore X0.here hx rfl (hb hby at_34) rfl (l' := #[.val (.int p0), .val (.int p1), .val (.int p2), .val (.int p3), .val (.int p4), .val (.int p2), .val (.int p3), .val (.int 2), .unset, .unset, .unset]) rfl ?_
    show Steps p.tables e below (s₁.setTop (mkF m 36 #[.val (.int p0), .val (.int p1), .val (.int p2), .val (.int p3), .val (.int p4), .val (.int p2), .val (.int p3), .val (.int 2), .unset, .unset, .unset] [])) _
    refine st1 _ ?_
    refine XS.dup X1.here hx rfl (hb hby at_39) rfl rfl ?_
    refine XS.iloadN X1.here hx rfl (hb hby at_40) rfl ?_
    refine XS.iloadN X1.here hx rfl (hb hby at_41) rfl ?_
    show Steps p.tables e below (T1.setTop (mkF m 42 #[.val (.int p0), .val (.int p1), .val (.int p2), .val (.int p3), .val (.int p4), .val (.int p2), .val (.int p3), .val (.int 2), .unset, .unset, .unset] [(.int p1), (.int p0), (.ref b25), (.ref b25)])) _
    refine st2.trans ?_
    refine XS.astore X2.here hx rfl (hb hby at_45) rfl rfl (l' := #[.val (.int p0), .val (.int p1), .val (.int p2), .val (.int p3), .val (.int p4), .val (.int p2), .val (.int p3), .val (.int 2), .val (.ref b25), .unset, .unset]) rfl ?_
    show Steps p.tables e below (T2.setTop (mkF m 47 #[.val (.int p0), .val (.int p1), .val (.int p2), .val (.int p3), .val (.int p4), .val (.int p2), .val (.int p3), .val (.int 2), .val (.ref b25), .unset, .unset] [])) _
    refine st3 _ ?_
    refine XS.dup X3.here hx rfl (hb hby at_50) rfl rfl ?_
    refine XS.iload X3.here hx rfl (hb hby at_51) rfl ?_
    refine XS.iload X3.here hx rfl (hb hby at_53) rfl ?_
    show Steps p.tables e below (T3.setTop (mkF m 55 #[.val (.int p0), .val (.int p1), .val (.int p2), .val (.int p3), .val (.int p4), .val (.int p2), .val (.int p3), .val (.int 2), .val (.ref b25), .unset, .unset] [(.int p3), (.int p2), (.ref b26), (.ref b26)])) _
    refine st4.trans ?_
    refine XS.astore X4.here hx rfl (hb hby at_58) rfl rfl (l' := #[.val (.int p0), .val (.int p1), .val (.int p2), .val (.int p3), .val (.int p4), .val (.int p2), .val (.int p3), .val (.int 2), .val (.ref b25), .val (.ref b26), .unset]) rfl ?_
    refine XS.iload X4.here hx rfl (hb hby at_60) rfl ?_
    refine XS.ifYes X4.here hx rfl (pc0 := 62) (pc' := 114) rfl (hb hby at_62) rfl (by decide) (by decide) (by decide) ?_
    refine XS.iload X4.here hx rfl (hb hby at_114) rfl ?_
    show Steps p.tables e below (T4.setTop (mkF m 116 #[.val (.int p0), .val (.int p1), .val (.int p2), .val (.int p3), .val (.int p4), .val (.int p2), .val (.int p3), .val (.int 2), .val (.ref b25), .val (.ref b26), .unset] [(.int 2)])) _
    refine XS.iconst X4.here hx rfl (hb hby at_116) ?_
    refine XS.icmpYes X4.here hx rfl (pc0 := 117) (pc' := 135) rfl (hb hby at_117) rfl (by decide) (by decide) (by decide) ?_
    refine XS.iload X4.here hx rfl (hb hby at_135) rfl ?_
    refine XS.iconst X4.here hx rfl (hb hby at_137) ?_
    refine XS.icmpNo X4.here hx rfl (hb hby at_138) rfl (by decide) ?_
    show Steps p.tables e below (T4.setTop (mkF m 141 #[.val (.int p0), .val (.int p1), .val (.int p2), .val (.int p3), .val (.int p4), .val (.int p2), .val (.int p3), .val (.int 2), .val (.ref b25), .val (.ref b26), .unset] [])) _
    refine XS.aload X4.here hx rfl (hb hby at_141) rfl rfl ?_
    refine XS.iloadN X4.here hx rfl (hb hby at_143) rfl ?_
    show Steps p.tables e below (T4.setTop (mkF m 144 #[.val (.int p0), .val (.int p1), .val (.int p2), .val (.int p3), .val (.int p4), .val (.int p2), .val (.int p3), .val (.int 2), .val (.ref b25), .val (.ref b26), .unset] [(.int p0), (.ref b25)])) _
    refine st21 _ ?_
    show Steps p.tables e below (T21.setTop (mkF m 147 #[.val (.int p0), .val (.int p1), .val (.int p2), .val (.int p3), .val (.int p4), .val (.int p2), .val (.int p3), .val (.int 2), .val (.ref b25), .val (.ref b26), .unset] [(.ref bx39), (.ref b25)])) _
    refine st22.trans ?_
    refine XS.ifNo X22.here hx rfl (hb hby at_150) rfl (by decide) ?_
    refine XS.iconst X22.here hx rfl (hb hby at_153) ?_
    refine XS.goto X22.here hx rfl (pc0 := 154) (pc' := 158) rfl (hb hby at_154) (by decide) (by decide) ?_
    show Steps p.tables e below (T22.setTop (mkF m 158 #[.val (.int p0), .val (.int p1), .val (.int p2), .val (.int p3), .val (.int p4), .val (.int p2), .val (.int p3), .val (.int 2), .val (.ref b25), .val (.ref b26), .unset] [(.int 1)])) _
    exact retN X22 hx (t := .boolean) Bd.returns (by simp) (hb hby at_158) hr
  · show QT n0 _ T22.heap _
    rw [e22]
    exact ⟨rfl, N22⟩
set_option maxRecDepth 65536 in
set_option maxHeartbeats 40000000 in
theorem rm4_44 (l : Launch) (Z : State) (a0 : Array Value) (hw : ∀ d ∈ tables_1, d.before a0 Z = true) (ws : List Jvm.Cond) (c0_a : Addr) (p0 : Int32) (p1 : Int32) (h0 : Heap) (n0 : Nat) (Z0 : n0 ≤ h0.size) (f1 : E_1 Z h0 c0_a) (f2 : F_0 Z h0 c0_a (.int p0)) (f3 : F_1 Z h0 c0_a (.int p1)) :
    MetFree l M_2 (head1 (Jvm.Cond.code M_2 prog_3_method_4_code 3 (some .boolean) :: ws) R_0_0_0_0) (fun a U => a = #[(.ref c0_a), (.ref c0_a)] ∧ Z.Warmed39 U.vm ∧ U.heap = h0) (fun _ _ _ _ _ => True) (fun _ U o U' => ∃ v L, o = .returned v ∧ QP (some (.int 1)) h0 n0 v U'.heap L ∧ FrameEnd U o U' L R_0_0_0_0.cells R_0_0_0_0.slots) := by
  refine MetFree.of_bodySF (plainFor_of_name pn_hexwright_board_Hex) hisR ?_
  intro p e s m args below meth c s₁ Bd hml0 hP hK
  obtain ⟨rfl, hZ, hh⟩ := hP
  have hx := Bd.exec
  have hby := Bd.bytes
  have hml : c.maxLocals = 3 := hml0
  have hown : s.vm.findClass "hexwright/board/Hex" = some m.cls := findClass_of_methodNamed Bd.named
  have hnm := (name_of_methodNamed Bd.named Bd.method).1
  have X0 : Stand p l e R_0_0_0_0 s m #[(.ref c0_a), (.ref c0_a)] below meth c s₁ [] 0 0 := Stand.of_body Bd
  have e0 : s₁.heap = h0 := by rw [← hh, Bd.state]; rfl
  have N0 := Fr.nil n0
  obtain ⟨T1, X1, e1, st1⟩ := instY X0 hx hZ hown (tw_23 hw) e0 (Ins.self f1) (g := (mkF m 1 #[.val (.ref c0_a), .val (.ref c0_a), .unset] [(.ref c0_a)])) rfl rfl (hb hby d4_1)
  obtain ⟨T2, X2, e2, st2⟩ := castY X1 hx hZ hown (tw_23 hw) e1 (Ins.self f1) (g := (mkF m 8 #[.val (.ref c0_a), .val (.ref c0_a), .unset] [(.ref c0_a)])) rfl rfl (hb hby d4_8)
  obtain ⟨T3, X3, e3, st3⟩ := getF X2 hx hZ hown (host := "") (Or.inl (tw_14 hw)) Via.refl e2 f2 (g := (mkF m 13 #[.val (.ref c0_a), .val (.ref c0_a), .val (.ref c0_a)] [(.ref c0_a)])) rfl rfl (hb hby d4_13)
  obtain ⟨T4, X4, e4, st4⟩ := getF X3 hx hZ hown (host := "") (Or.inl (tw_14 hw)) Via.refl e3 f2 (g := (mkF m 17 #[.val (.ref c0_a), .val (.ref c0_a), .val (.ref c0_a)] [(.ref c0_a), (.int p0)])) rfl rfl (hb hby d4_17)
  obtain ⟨T5, X5, e5, st5⟩ := getF X4 hx hZ hown (host := "") (Or.inl (tw_16 hw)) Via.refl e4 f3 (g := (mkF m 24 #[.val (.ref c0_a), .val (.ref c0_a), .val (.ref c0_a)] [(.ref c0_a)])) rfl rfl (hb hby d4_24)
  obtain ⟨T6, X6, e6, st6⟩ := getF X5 hx hZ hown (host := "") (Or.inl (tw_16 hw)) Via.refl e5 f3 (g := (mkF m 28 #[.val (.ref c0_a), .val (.ref c0_a), .val (.ref c0_a)] [(.ref c0_a), (.int p1)])) rfl rfl (hb hby d4_28)
  obtain ⟨fs, hr, hrun, hended, hW, hsame⟩ := X6.leave (v := (some (.int 1))) (fun h => by rw [Bd.returns] at h; cases h)
  refine ⟨_, _, castTop (ef4_RR m c0_a c0_a) ?_, hrun, hended, _, _, rfl, ?_, ⟨_, rfl⟩, hW, hsame.mono (by decide) (by decide)⟩
  · show Steps p.tables e below (s₁.setTop (mkF m 0 #[.val (.ref c0_a), .val (.ref c0_a), .unset] [])) _
    refine XS.aloadN X0.here hx rfl (hb hby d4_0) rfl rfl ?_
    show Steps p.tables e below (s₁.setTop (mkF m 1 #[.val (.ref c0_a), .val (.ref c0_a), .unset] [(.ref c0_a)])) _
    refine st1 _ ?_
    refine XS.ifNo X1.here hx rfl (hb hby d4_4) rfl (by decide) ?_
    refine XS.aloadN X1.here hx rfl (hb hby d4_7) rfl rfl ?_
    show Steps p.tables e below (T1.setTop (mkF m 8 #[.val (.ref c0_a), .val (.ref c0_a), .unset] [(.ref c0_a)])) _
    refine st2 _ ?_
    refine XS.astoreN X2.here hx rfl (hb hby d4_11) rfl rfl (l' := #[.val (.ref c0_a), .val (.ref c0_a), .val (.ref c0_a)]) rfl ?_
    refine XS.aloadN X2.here hx rfl (hb hby d4_12) rfl rfl ?_
    show Steps p.tables e below (T2.setTop (mkF m 13 #[.val (.ref c0_a), .val (.ref c0_a), .val (.ref c0_a)] [(.ref c0_a)])) _
    refine st3 _ ?_
    refine XS.aloadN X3.here hx rfl (hb hby d4_16) rfl rfl ?_
    show Steps p.tables e below (T3.setTop (mkF m 17 #[.val (.ref c0_a), .val (.ref c0_a), .val (.ref c0_a)] [(.ref c0_a), (.int p0)])) _
    refine st4 _ ?_
    refine XS.icmpNo X4.here hx rfl (hb hby d4_20) rfl (teq (rfl : p0 = p0)).2 ?_
    refine XS.aloadN X4.here hx rfl (hb hby d4_23) rfl rfl ?_
    show Steps p.tables e below (T4.setTop (mkF m 24 #[.val (.ref c0_a), .val (.ref c0_a), .val (.ref c0_a)] [(.ref c0_a)])) _
    refine st5 _ ?_
    refine XS.aloadN X5.here hx rfl (hb hby d4_27) rfl rfl ?_
    show Steps p.tables e below (T5.setTop (mkF m 28 #[.val (.ref c0_a), .val (.ref c0_a), .val (.ref c0_a)] [(.ref c0_a), (.int p1)])) _
    refine st6 _ ?_
    refine XS.icmpNo X6.here hx rfl (hb hby d4_31) rfl (teq (rfl : p1 = p1)).2 ?_
    refine XS.iconst X6.here hx rfl (hb hby d4_34) ?_
    refine XS.goto X6.here hx rfl (pc0 := 35) (pc' := 39) rfl (hb hby d4_35) (by decide) (by decide) ?_
    show Steps p.tables e below (T6.setTop (mkF m 39 #[.val (.ref c0_a), .val (.ref c0_a), .val (.ref c0_a)] [(.int 1)])) _
    exact retN X6 hx (t := .boolean) Bd.returns (by simp) (hb hby d4_39) hr
  · show QP (some (.int 1)) h0 n0 _ T6.heap _
    rw [e6]
    exact ⟨rfl, N0, rfl⟩
set_option maxRecDepth 65536 in
set_option maxHeartbeats 40000000 in
theorem rm0_45 (l : Launch) (Z : State) (a0 : Array Value) (hw : ∀ d ∈ tables_1, d.before a0 Z = true) (ws : List Jvm.Cond) (p0 : Int32) (p1 : Int32) (p2 : Int32) (p3 : Int32) (p4 : Int32) (h0 : Heap) (n0 : Nat) (Z0 : n0 ≤ h0.size) (f1 : (p4 &&& (1 : Int32)) = (0 : Int32)) (f2 : (p4 &&& (2 : Int32)) = (0 : Int32)) (f3 : (((p4.toUInt32 >>> ((2 : Int32) &&& 31).toUInt32).toInt32) &&& (3 : Int32)) = (3 : Int32)) :
    MetFree l x (head1 (Jvm.Cond.code x code maxLocals ret :: ws) room_1) (fun a U => a = #[(.int p0), (.int p1), (.int p2), (.int p3), (.int p4)] ∧ Z.Warmed39 U.vm ∧ U.heap = h0) (fun _ _ _ _ _ => True) (fun _ U o U' => ∃ v L, o = .returned v ∧ QT n0 v U'.heap L ∧ FrameEnd U o U' L room_1.cells room_1.slots) := by
  refine MetFree.of_bodySF (plainFor_of_name pn_hexwright_board_HexEqualsPinLaw) hisR ?_
  intro p e s m args below meth c s₁ Bd hml0 hP hK
  obtain ⟨rfl, hZ, hh⟩ := hP
  have hx := Bd.exec
  have hby := Bd.bytes
  have hml : c.maxLocals = 11 := hml0
  have hown : s.vm.findClass "hexwright/board/HexEqualsPinLaw" = some m.cls := findClass_of_methodNamed Bd.named
  have hnm := (name_of_methodNamed Bd.named Bd.method).1
  have X0 : Stand p l e room_1 s m #[(.int p0), (.int p1), (.int p2), (.int p3), (.int p4)] below meth c s₁ [] 0 0 := Stand.of_body Bd
  have e0 : s₁.heap = h0 := by rw [← hh, Bd.state]; rfl
  have N0 := Fr.nil n0
  obtain ⟨T1, h1, X1, e1, E1, A1, D1, -, st1⟩ := newO X0 hx hZ hown (tw_0 hw) (tw_1 hw) (tw_2 hw) e0 (g := (mkF m 36 #[.val (.int p0), .val (.int p1), .val (.int p2), .val (.int p3), .val (.int p4), .val (.int p2), .val (.int p3), .val (.int 3), .unset, .unset, .unset] [])) rfl (hb hby at_36) (by decide) (by decide)
  obtain ⟨b42, g1⟩ : ∃ z, z = h0.size := ⟨_, rfl⟩
  rw [← g1] at A1 D1 st1
  have sz_b42 : h0.size ≤ b42 := Nat.le_trans (Nat.le_refl _) (Nat.le_of_eq g1.symm)
  have g_b42 : n0 ≤ b42 := Nat.le_trans Z0 sz_b42
  have KK1 : Keep h0 h1 [] := (Keep.refl h0 []).ext E1
  have F1_15 : F_0 Z h1 b42 (.int 0) := D1 (Or.inr (tw_15 hw)) (ty := .int) (by decide)
  have F1_17 : F_1 Z h1 b42 (.int 0) := D1 (Or.inr (tw_17 hw)) (ty := .int) (by decide)
  -- pc 42: hexwright/board/Hex.<init>
  obtain ⟨_, _, ⟨T2, L2, k2, n2⟩, -, X2, ⟨Lc2, hQ2, l2, y2, z2⟩, st2⟩ := X1.specialBack hx (y := M_1) rfl hown (mvT hZ (tw_3 hw)) (mvT hZ (tw_4 hw)) (mvT hZ (tw_5 hw)) (by decide) (backOf (W := 1) (rm1_3 l Z a0 hw [] b42 p0 p1 h1 n0 (Nat.le_trans Z0 KK1.1) F1_15 A1 g_b42 F1_17) hZ (tw_5 hw) (tw_2 hw) (by decide) (by decide)) (g := (mkF m 42 #[.val (.int p0), .val (.int p1), .val (.int p2), .val (.int p3), .val (.int p4), .val (.int p2), .val (.int p3), .val (.int 3), .unset, .unset, .unset] [(.int p1), (.int p0), (.ref b42), (.ref b42)])) rfl (by rw [hml]; rfl) (Steps.refl _) (a := b42) (argsL := [(.int p0), (.int p1)]) (rest := [(.ref b42)]) (lenOf pd_1 rfl) rfl (by show 2 * 0 + _ ≤ _; exact Nat.le_of_eq rfl) (hb hby at_42) (fun _ _ => ⟨rfl, e1, (by decide : 1 + 0 ≤ _), (by decide : 2 + 0 ≤ _)⟩)
  dsimp only [Pt.U, Pt.locs, Pt.cells, Pt.slots] at X2 l2 y2 z2 st2 hQ2
  subst l2 y2 z2
  obtain ⟨rfl, Nq2, K2, o2_0, o2_1⟩ := hQ2
  have N2 := Fr.app N0 Nq2
  have KK2 : Keep h0 T2.heap [] := KK1.trans K2 (fun x hx => (List.mem_cons.mp hx).elim (fun q => q ▸ (Or.inr sz_b42)) (fun hx => nomatch hx))
  obtain ⟨T3, h3, X3, e3, E3, A3, D3, -, st3⟩ := newO X2 hx hZ hown (tw_0 hw) (tw_1 hw) (tw_2 hw) rfl (g := (mkF m 47 #[.val (.int p0), .val (.int p1), .val (.int p2), .val (.int p3), .val (.int p4), .val (.int p2), .val (.int p3), .val (.int 3), .val (.ref b42), .unset, .unset] [])) rfl (hb hby at_47) (by decide) (by decide)
  obtain ⟨b43, g3⟩ : ∃ z, z = T2.heap.size := ⟨_, rfl⟩
  rw [← g3] at A3 D3 st3
  have sz_b43 : h0.size ≤ b43 := Nat.le_trans KK2.1 (Nat.le_of_eq g3.symm)
  have g_b43 : n0 ≤ b43 := Nat.le_trans Z0 sz_b43
  have KK3 : Keep h0 h3 [] := KK2.ext E3
  have F3_15 : F_0 Z h3 b43 (.int 0) := D3 (Or.inr (tw_15 hw)) (ty := .int) (by decide)
  have F3_17 : F_1 Z h3 b43 (.int 0) := D3 (Or.inr (tw_17 hw)) (ty := .int) (by decide)
  -- pc 55: hexwright/board/Hex.<init>
  obtain ⟨_, _, ⟨T4, L4, k4, n4⟩, -, X4, ⟨Lc4, hQ4, l4, y4, z4⟩, st4⟩ := X3.specialBack hx (y := M_1) rfl hown (mvT hZ (tw_3 hw)) (mvT hZ (tw_4 hw)) (mvT hZ (tw_5 hw)) (by decide) (backOf (W := 1) (rm1_6 l Z a0 hw [] b43 p2 p3 h3 n0 (Nat.le_trans Z0 KK3.1) F3_15 A3 g_b43 F3_17) hZ (tw_5 hw) (tw_2 hw) (by decide) (by decide)) (g := (mkF m 55 #[.val (.int p0), .val (.int p1), .val (.int p2), .val (.int p3), .val (.int p4), .val (.int p2), .val (.int p3), .val (.int 3), .val (.ref b42), .unset, .unset] [(.int p3), (.int p2), (.ref b43), (.ref b43)])) rfl (by rw [hml]; rfl) (Steps.refl _) (a := b43) (argsL := [(.int p2), (.int p3)]) (rest := [(.ref b43)]) (lenOf pd_1 rfl) rfl (by show 2 * 0 + _ ≤ _; exact Nat.le_of_eq rfl) (hb hby at_55) (fun _ _ => ⟨rfl, e3, (by decide : 2 + 0 ≤ _), (by decide : 4 + 0 ≤ _)⟩)
  dsimp only [Pt.U, Pt.locs, Pt.cells, Pt.slots] at X4 l4 y4 z4 st4 hQ4
  subst l4 y4 z4
  obtain ⟨rfl, Nq4, K4, o4_0, o4_1⟩ := hQ4
  have N4 := Fr.app N2 Nq4
  have KK4 : Keep h0 T4.heap [] := KK3.trans K4 (fun x hx => (List.mem_cons.mp hx).elim (fun q => q ▸ (Or.inr sz_b43)) (fun hx => nomatch hx))
  -- pc 163: hexwright/board/Hex.equals
  have u5 : E_1 Z T2.heap b42 := Exa.keep A1 K2
  have u6 : E_1 Z h3 b42 := Exa.ext E3 u5
  have u7 : E_1 Z T4.heap b42 := Exa.keep u6 K4
  have u8 : F_0 Z h3 b42 (.int p0) := Fld.ext E3 o2_0
  have ne9 : b42 ≠ b43 := Nat.ne_of_lt (Nat.lt_of_lt_of_le (Exa.lt u5) (Nat.le_of_eq g3.symm))
  have u10 : F_0 Z T4.heap b42 (.int p0) := Fld.keep u8 K4 (own_notin ne9 List.not_mem_nil)
  have u11 : F_1 Z h3 b42 (.int p1) := Fld.ext E3 o2_1
  have u12 : F_1 Z T4.heap b42 (.int p1) := Fld.keep u11 K4 (own_notin ne9 List.not_mem_nil)
  obtain ⟨cq13, kq13, q13a, q13b, q13c⟩ := isOf hZ rfl u7
  obtain ⟨_, _, ⟨T13, L13, k13, n13⟩, -, X13, ⟨Lc13, hQ13, l13, y13, z13⟩, st13⟩ := X4.virtualBack hx (y := M_2) (z := M_2) hown (mvT hZ (tw_18 hw)) (mvT hZ (tw_19 hw)) (notFace_of_selects (args := #[]) (mvT hZ (tw_21 hw))) (mvT hZ (tw_21 hw)) (mvT hZ (tw_20 hw)) (by decide) (backOf (W := 0) (rm4_44 l Z a0 hw [] b42 p0 p1 T4.heap n0 (Nat.le_trans Z0 KK4.1) u7 u10 u12) hZ (tw_22 hw) (tw_2 hw) (by decide) (by decide)) q13a q13c (g := (mkF m 163 #[.val (.int p0), .val (.int p1), .val (.int p2), .val (.int p3), .val (.int p4), .val (.int p2), .val (.int p3), .val (.int 3), .val (.ref b42), .val (.ref b43), .unset] [(.ref b42), (.ref b42)])) rfl (by rw [hml]; rfl) (Steps.refl _) (argsL := [(.ref b42)]) (rest := []) (lenOf pd_2 rfl) rfl (by show 2 * 0 + _ ≤ _; exact Nat.le_of_eq rfl) (hb hby at_163) (fun _ _ => ⟨rfl, rfl, (by decide : 2 + 0 ≤ _), (by decide : 4 + 0 ≤ _)⟩)
  dsimp only [Pt.U, Pt.locs, Pt.cells, Pt.slots] at X13 l13 y13 z13 st13 hQ13
  subst l13 y13 z13
  obtain ⟨rfl, Nq13, e13⟩ := hQ13
  have N13 := Fr.app N4 Nq13
  obtain ⟨fs, hr, hrun, hended, hW, hsame⟩ := X13.leave (v := (some (.int 1))) (fun h => by rw [Bd.returns] at h; cases h)
  refine ⟨_, _, castTop (ef0_IIIII m p0 p1 p2 p3 p4) ?_, hrun, hended, _, _, rfl, ?_, ⟨_, rfl⟩, hW, hsame.mono (by decide) (by decide)⟩
  · show Steps p.tables e below (s₁.setTop (mkF m 0 #[.val (.int p0), .val (.int p1), .val (.int p2), .val (.int p3), .val (.int p4), .unset, .unset, .unset, .unset, .unset, .unset] [])) _
    refine XS.iload X0.here hx rfl (hb hby at_0) rfl ?_
    refine XS.iconst X0.here hx rfl (hb hby at_2) ?_
    show Steps p.tables e below (s₁.setTop (mkF m 3 #[.val (.int p0), .val (.int p1), .val (.int p2), .val (.int p3), .val (.int p4), .unset, .unset, .unset, .unset, .unset, .unset] [(.int 1), (.int p4)])) _
    refine XS.iand X0.here hx rfl (hb hby at_3) rfl ?_
    refine XS.ifYes X0.here hx rfl (pc0 := 4) (pc' := 11) rfl (hb hby at_4) rfl ((if0 _ _).trans (teq (f1 : (p4 &&& (1 : Int32)) = (0 : Int32))).1) (by decide) (by decide) ?_
    refine XS.iloadN X0.here hx rfl (hb hby at_11) rfl ?_
    refine XS.istore X0.here hx rfl (hb hby at_12) rfl (l' := #[.val (.int p0), .val (.int p1), .val (.int p2), .val (.int p3), .val (.int p4), .val (.int p2), .unset, .unset, .unset, .unset, .unset]) rfl ?_
    refine XS.iload X0.here hx rfl (hb hby at_14) rfl ?_
    show Steps p.tables e below (s₁.setTop (mkF m 16 #[.val (.int p0), .val (.int p1), .val (.int p2), .val (.int p3), .val (.int p4), .val (.int p2), .unset, .unset, .unset, .unset, .unset] [(.int p4)])) _
    refine XS.iconst X0.here hx rfl (hb hby at_16) ?_
    show Steps p.tables e below (s₁.setTop (mkF m 17 #[.val (.int p0), .val (.int p1), .val (.int p2), .val (.int p3), .val (.int p4), .val (.int p2), .unset, .unset, .unset, .unset, .unset] [(.int 2), (.int p4)])) _
    refine XS.iand X0.here hx rfl (hb hby at_17) rfl ?_
    refine XS.ifYes X0.here hx rfl (pc0 := 18) (pc' := 25) rfl (hb hby at_18) rfl ((if0 _ _).trans (teq (f2 : (p4 &&& (2 : Int32)) = (0 : Int32))).1) (by decide) (by decide) ?_
    refine XS.iloadN X0.here hx rfl (hb hby at_25) rfl ?_
    refine XS.istore X0.here hx rfl (hb hby at_26) rfl (l' := #[.val (.int p0), .val (.int p1), .val (.int p2), .val (.int p3), .val (.int p4), .val (.int p2), .val (.int p3), .unset, .unset, .unset, .unset]) rfl ?_
    refine XS.iload X0.here hx rfl (hb hby at_28) rfl ?_
    show Steps p.tables e below (s₁.setTop (mkF m 30 #[.val (.int p0), .val (.int p1), .val (.int p2), .val (.int p3), .val (.int p4), .val (.int p2), .val (.int p3), .unset, .unset, .unset, .unset] [(.int p4)])) _
    refine XS.iconst X0.here hx rfl (hb hby at_30) ?_
    show Steps p.tables e below (s₁.setTop (mkF m 31 #[.val (.int p0), .val (.int p1), .val (.int p2), .val (.int p3), .val (.int p4), .val (.int p2), .val (.int p3), .unset, .unset, .unset, .unset] [(.int 2), (.int p4)])) _
    refine XS.iushr X0.here hx rfl (hb hby at_31) rfl ?_
    refine XS.iconst X0.here hx rfl (hb hby at_32) ?_
    show Steps p.tables e below (s₁.setTop (mkF m 33 #[.val (.int p0), .val (.int p1), .val (.int p2), .val (.int p3), .val (.int p4), .val (.int p2), .val (.int p3), .unset, .unset, .unset, .unset] [(.int 3), (.int ((p4.toUInt32 >>> ((2 : Int32) &&& 31).toUInt32).toInt32))])) _
    refine XS.iand X0.here hx rfl (hb hby at_33) rfl ?_
    show Steps p.tables e below (s₁.setTop (mkF m 34 #[.val (.int p0), .val (.int p1), .val (.int p2), .val (.int p3), .val (.int p4), .val (.int p2), .val (.int p3), .unset, .unset, .unset, .unset] [(.int (((p4.toUInt32 >>> ((2 : Int32) &&& 31).toUInt32).toInt32) &&& (3 : Int32)))])) _
    rw [f3]
    refine XS.istore X0.here hx rfl (hb hby at_34) rfl (l' := #[.val (.int p0), .val (.int p1), .val (.int p2), .val (.int p3), .val (.int p4), .val (.int p2), .val (.int p3), .val (.int 3), .unset, .unset, .unset]) rfl ?_
    show Steps p.tables e below (s₁.setTop (mkF m 36 #[.val (.int p0), .val (.int p1), .val (.int p2), .val (.int p3), .val (.int p4), .val (.int p2), .val (.int p3), .val (.int 3), .unset, .unset, .unset] [])) _
    refine st1 _ ?_
    refine XS.dup X1.here hx rfl (hb hby at_39) rfl rfl ?_
    refine XS.iloadN X1.here hx rfl (hb hby at_40) rfl ?_
    refine XS.iloadN X1.here hx rfl (hb hby at_41) rfl ?_
    show Steps p.tables e below (T1.setTop (mkF m 42 #[.val (.int p0), .val (.int p1), .val (.int p2), .val (.int p3), .val (.int p4), .val (.int p2), .val (.int p3), .val (.int 3), .unset, .unset, .unset] [(.int p1), (.int p0), (.ref b42), (.ref b42)])) _
    refine st2.trans ?_
    refine XS.astore X2.here hx rfl (hb hby at_45) rfl rfl (l' := #[.val (.int p0), .val (.int p1), .val (.int p2), .val (.int p3), .val (.int p4), .val (.int p2), .val (.int p3), .val (.int 3), .val (.ref b42), .unset, .unset]) rfl ?_
    show Steps p.tables e below (T2.setTop (mkF m 47 #[.val (.int p0), .val (.int p1), .val (.int p2), .val (.int p3), .val (.int p4), .val (.int p2), .val (.int p3), .val (.int 3), .val (.ref b42), .unset, .unset] [])) _
    refine st3 _ ?_
    refine XS.dup X3.here hx rfl (hb hby at_50) rfl rfl ?_
    refine XS.iload X3.here hx rfl (hb hby at_51) rfl ?_
    refine XS.iload X3.here hx rfl (hb hby at_53) rfl ?_
    show Steps p.tables e below (T3.setTop (mkF m 55 #[.val (.int p0), .val (.int p1), .val (.int p2), .val (.int p3), .val (.int p4), .val (.int p2), .val (.int p3), .val (.int 3), .val (.ref b42), .unset, .unset] [(.int p3), (.int p2), (.ref b43), (.ref b43)])) _
    refine st4.trans ?_
    refine XS.astore X4.here hx rfl (hb hby at_58) rfl rfl (l' := #[.val (.int p0), .val (.int p1), .val (.int p2), .val (.int p3), .val (.int p4), .val (.int p2), .val (.int p3), .val (.int 3), .val (.ref b42), .val (.ref b43), .unset]) rfl ?_
    refine XS.iload X4.here hx rfl (hb hby at_60) rfl ?_
    refine XS.ifYes X4.here hx rfl (pc0 := 62) (pc' := 114) rfl (hb hby at_62) rfl (by decide) (by decide) (by decide) ?_
    refine XS.iload X4.here hx rfl (hb hby at_114) rfl ?_
    show Steps p.tables e below (T4.setTop (mkF m 116 #[.val (.int p0), .val (.int p1), .val (.int p2), .val (.int p3), .val (.int p4), .val (.int p2), .val (.int p3), .val (.int 3), .val (.ref b42), .val (.ref b43), .unset] [(.int 3)])) _
    refine XS.iconst X4.here hx rfl (hb hby at_116) ?_
    refine XS.icmpYes X4.here hx rfl (pc0 := 117) (pc' := 135) rfl (hb hby at_117) rfl (by decide) (by decide) (by decide) ?_
    refine XS.iload X4.here hx rfl (hb hby at_135) rfl ?_
    refine XS.iconst X4.here hx rfl (hb hby at_137) ?_
    refine XS.icmpYes X4.here hx rfl (pc0 := 138) (pc' := 159) rfl (hb hby at_138) rfl (by decide) (by decide) (by decide) ?_
    show Steps p.tables e below (T4.setTop (mkF m 159 #[.val (.int p0), .val (.int p1), .val (.int p2), .val (.int p3), .val (.int p4), .val (.int p2), .val (.int p3), .val (.int 3), .val (.ref b42), .val (.ref b43), .unset] [])) _
    refine XS.aload X4.here hx rfl (hb hby at_159) rfl rfl ?_
    refine XS.aload X4.here hx rfl (hb hby at_161) rfl rfl ?_
    show Steps p.tables e below (T4.setTop (mkF m 163 #[.val (.int p0), .val (.int p1), .val (.int p2), .val (.int p3), .val (.int p4), .val (.int p2), .val (.int p3), .val (.int 3), .val (.ref b42), .val (.ref b43), .unset] [(.ref b42), (.ref b42)])) _
    refine st13.trans ?_
    show Steps p.tables e below (T13.setTop (mkF m 166 #[.val (.int p0), .val (.int p1), .val (.int p2), .val (.int p3), .val (.int p4), .val (.int p2), .val (.int p3), .val (.int 3), .val (.ref b42), .val (.ref b43), .unset] [(.int 1)])) _
    exact retN X13 hx (t := .boolean) Bd.returns (by simp) (hb hby at_166) hr
  · show QT n0 _ T13.heap _
    rw [e13]
    exact ⟨rfl, N13⟩
def Q1_49 (Z : State) (c0_a : Addr) (p2 : Int32) (p1 : Int32) (h0 : Heap) (n0 : Nat) (v : Option Value) (h : Heap) (L : List Loc) : Prop := v = none ∧ Fr n0 L ∧ Keep h0 h [c0_a] ∧ F_0 Z h c0_a (.int p2) ∧ F_1 Z h c0_a (.int p1)
set_option maxRecDepth 65536 in
set_option maxHeartbeats 40000000 in
theorem rm1_48 (l : Launch) (Z : State) (a0 : Array Value) (hw : ∀ d ∈ tables_1, d.before a0 Z = true) (ws : List Jvm.Cond) (c0_a : Addr) (p2 : Int32) (p1 : Int32) (h0 : Heap) (n0 : Nat) (Z0 : n0 ≤ h0.size) (f1 : F_0 Z h0 c0_a (.int 0)) (f2 : E_1 Z h0 c0_a) (f3 : n0 ≤ c0_a) (f4 : F_1 Z h0 c0_a (.int 0)) :
    MetFree l M_1 (head1 (Jvm.Cond.code M_1 prog_3_method_1_code 3 none :: ws) R_2_0_0_24) (fun a U => a = #[(.ref c0_a), (.int p2), (.int p1)] ∧ Z.Warmed39 U.vm ∧ U.heap = h0) (fun _ _ _ _ _ => True) (fun _ U o U' => ∃ v L, o = .returned v ∧ Q1_49 Z c0_a p2 p1 h0 n0 v U'.heap L ∧ FrameEnd U o U' L R_2_0_0_24.cells R_2_0_0_24.slots) := by
  refine MetFree.of_bodySF (plainFor_of_name pn_hexwright_board_Hex) hisR ?_
  intro p e s m args below meth c s₁ Bd hml0 hP hK
  obtain ⟨rfl, hZ, hh⟩ := hP
  have hx := Bd.exec
  have hby := Bd.bytes
  have hml : c.maxLocals = 3 := hml0
  have hown : s.vm.findClass "hexwright/board/Hex" = some m.cls := findClass_of_methodNamed Bd.named
  have hnm := (name_of_methodNamed Bd.named Bd.method).1
  have X0 : Stand p l e R_2_0_0_24 s m #[(.ref c0_a), (.int p2), (.int p1)] below meth c s₁ [] 0 0 := Stand.of_body Bd
  have e0 : s₁.heap = h0 := by rw [← hh, Bd.state]; rfl
  have N0 := Fr.nil n0
  -- pc 1: java/lang/Record.<init>
  obtain ⟨_, _, ⟨T1, L1, k1, n1⟩, -, X1, ⟨Lc1, hQ1, l1, y1, z1⟩, st1⟩ := X0.specialBack hx (y := M_0) rfl hown (mvT hZ (tw_6 hw)) (mvT hZ (tw_7 hw)) (mvT hZ (tw_10 hw)) (by decide) (backOf (W := 0) (rm2_2 l Z a0 hw [] c0_a h0 n0 Z0 ) hZ (tw_10 hw) (tw_9 hw) (by decide) (by decide)) (g := (mkF m 1 #[.val (.ref c0_a), .val (.int p2), .val (.int p1)] [(.ref c0_a)])) rfl (by rw [hml]; rfl) (Steps.refl _) (a := c0_a) (argsL := []) (rest := []) (lenOf pd_0 rfl) rfl (by show 2 * 0 + _ ≤ _; exact Nat.le_of_eq rfl) (hb hby d1_1) (fun _ _ => ⟨rfl, e0, (by decide : 0 + 0 ≤ _), (by decide : 0 + 0 ≤ _)⟩)
  dsimp only [Pt.U, Pt.locs, Pt.cells, Pt.slots] at X1 l1 y1 z1 st1 hQ1
  subst l1 y1 z1
  obtain ⟨rfl, Nq1, e1⟩ := hQ1
  have N1 := Fr.app N0 Nq1
  obtain ⟨T2, h2, X2, e2, W2, st2⟩ := putF X1 hx hZ hown (host := "") (Or.inl (tw_14 hw)) Via.refl e1 f1 f2 (Or.inr ⟨(tw_15 hw), rfl, hnm⟩) (tw_1 hw) (ty := .int) (by decide) rfl rfl (g := (mkF m 6 #[.val (.ref c0_a), .val (.int p2), .val (.int p1)] [(.int p2), (.ref c0_a)])) rfl rfl (hb hby d1_6)
  have Fw2 : F_0 Z h2 c0_a (.int p2) := Fld.same W2 f1
  have KK2 : Keep h0 h2 [c0_a] := (Keep.refl h0 [c0_a]).wr W2 (Or.inl (List.mem_of_getElem? (i := 0) rfl))
  have N2 := Fr.snoc X2 N1 f3
  have u3 : F_1 Z h2 c0_a (.int 0) := Fld.other W2 f4 (Or.inr (slot_ne (a0 := a0) (Or.inr (tw_17 hw)) (Or.inr (tw_15 hw)) (by decide) (t := .int) (t' := .int) (by decide) (by decide)))
  have u4 : E_1 Z h2 c0_a := Exa.wr W2 f2
  obtain ⟨T5, h5, X5, e5, W5, st5⟩ := putF X2 hx hZ hown (host := "") (Or.inl (tw_16 hw)) Via.refl e2 u3 u4 (Or.inr ⟨(tw_17 hw), rfl, hnm⟩) (tw_1 hw) (ty := .int) (by decide) rfl rfl (g := (mkF m 11 #[.val (.ref c0_a), .val (.int p2), .val (.int p1)] [(.int p1), (.ref c0_a)])) rfl rfl (hb hby d1_11)
  have Fw5 : F_1 Z h5 c0_a (.int p1) := Fld.same W5 u3
  have KK5 : Keep h0 h5 [c0_a] := KK2.wr W5 (Or.inl (List.mem_of_getElem? (i := 0) rfl))
  have N5 := Fr.snoc X5 N2 f3
  have u6 : F_0 Z h5 c0_a (.int p2) := Fld.other W5 Fw2 (Or.inr (slot_ne (a0 := a0) (Or.inr (tw_15 hw)) (Or.inr (tw_17 hw)) (by decide) (t := .int) (t' := .int) (by decide) (by decide)))
  obtain ⟨fs, hr, hrun, hended, hW, hsame⟩ := X5.leave (v := none) (fun _ => rfl)
  refine ⟨_, _, castTop (ef1_RII m c0_a p2 p1) ?_, hrun, hended, _, _, rfl, ?_, ⟨_, rfl⟩, hW, hsame.mono (by decide) (by decide)⟩
  · show Steps p.tables e below (s₁.setTop (mkF m 0 #[.val (.ref c0_a), .val (.int p2), .val (.int p1)] [])) _
    refine XS.aloadN X0.here hx rfl (hb hby d1_0) rfl rfl ?_
    show Steps p.tables e below (s₁.setTop (mkF m 1 #[.val (.ref c0_a), .val (.int p2), .val (.int p1)] [(.ref c0_a)])) _
    refine st1.trans ?_
    refine XS.aloadN X1.here hx rfl (hb hby d1_4) rfl rfl ?_
    refine XS.iloadN X1.here hx rfl (hb hby d1_5) rfl ?_
    show Steps p.tables e below (T1.setTop (mkF m 6 #[.val (.ref c0_a), .val (.int p2), .val (.int p1)] [(.int p2), (.ref c0_a)])) _
    refine st2 _ ?_
    refine XS.aloadN X2.here hx rfl (hb hby d1_9) rfl rfl ?_
    refine XS.iloadN X2.here hx rfl (hb hby d1_10) rfl ?_
    show Steps p.tables e below (T2.setTop (mkF m 11 #[.val (.ref c0_a), .val (.int p2), .val (.int p1)] [(.int p1), (.ref c0_a)])) _
    refine st5 _ ?_
    show Steps p.tables e below (T5.setTop (mkF m 14 #[.val (.ref c0_a), .val (.int p2), .val (.int p1)] [])) _
    exact X5.returnOut hx Bd.returns (hb hby d1_14) hr
  · show Q1_49 Z c0_a p2 p1 h0 n0 _ T5.heap _
    rw [e5]
    exact ⟨rfl, N5, KK5, u6, Fw5⟩
set_option maxRecDepth 65536 in
set_option maxHeartbeats 40000000 in
theorem rm4_50 (l : Launch) (Z : State) (a0 : Array Value) (hw : ∀ d ∈ tables_1, d.before a0 Z = true) (ws : List Jvm.Cond) (c0_a : Addr) (c1_a : Addr) (p2 : Int32) (p0 : Int32) (p1 : Int32) (h0 : Heap) (n0 : Nat) (Z0 : n0 ≤ h0.size) (f1 : E_1 Z h0 c1_a) (f2 : F_0 Z h0 c1_a (.int p2)) (f3 : F_0 Z h0 c0_a (.int p0)) (f4 : p2 = p0) (f5 : F_1 Z h0 c1_a (.int p1)) (f6 : F_1 Z h0 c0_a (.int p1)) :
    MetFree l M_2 (head1 (Jvm.Cond.code M_2 prog_3_method_4_code 3 (some .boolean) :: ws) R_0_0_0_0) (fun a U => a = #[(.ref c0_a), (.ref c1_a)] ∧ Z.Warmed39 U.vm ∧ U.heap = h0) (fun _ _ _ _ _ => True) (fun _ U o U' => ∃ v L, o = .returned v ∧ QP (some (.int 1)) h0 n0 v U'.heap L ∧ FrameEnd U o U' L R_0_0_0_0.cells R_0_0_0_0.slots) := by
  refine MetFree.of_bodySF (plainFor_of_name pn_hexwright_board_Hex) hisR ?_
  intro p e s m args below meth c s₁ Bd hml0 hP hK
  obtain ⟨rfl, hZ, hh⟩ := hP
  have hx := Bd.exec
  have hby := Bd.bytes
  have hml : c.maxLocals = 3 := hml0
  have hown : s.vm.findClass "hexwright/board/Hex" = some m.cls := findClass_of_methodNamed Bd.named
  have hnm := (name_of_methodNamed Bd.named Bd.method).1
  have X0 : Stand p l e R_0_0_0_0 s m #[(.ref c0_a), (.ref c1_a)] below meth c s₁ [] 0 0 := Stand.of_body Bd
  have e0 : s₁.heap = h0 := by rw [← hh, Bd.state]; rfl
  have N0 := Fr.nil n0
  obtain ⟨T1, X1, e1, st1⟩ := instY X0 hx hZ hown (tw_23 hw) e0 (Ins.self f1) (g := (mkF m 1 #[.val (.ref c0_a), .val (.ref c1_a), .unset] [(.ref c1_a)])) rfl rfl (hb hby d4_1)
  obtain ⟨T2, X2, e2, st2⟩ := castY X1 hx hZ hown (tw_23 hw) e1 (Ins.self f1) (g := (mkF m 8 #[.val (.ref c0_a), .val (.ref c1_a), .unset] [(.ref c1_a)])) rfl rfl (hb hby d4_8)
  obtain ⟨T3, X3, e3, st3⟩ := getF X2 hx hZ hown (host := "") (Or.inl (tw_14 hw)) Via.refl e2 f2 (g := (mkF m 13 #[.val (.ref c0_a), .val (.ref c1_a), .val (.ref c1_a)] [(.ref c1_a)])) rfl rfl (hb hby d4_13)
  obtain ⟨T4, X4, e4, st4⟩ := getF X3 hx hZ hown (host := "") (Or.inl (tw_14 hw)) Via.refl e3 f3 (g := (mkF m 17 #[.val (.ref c0_a), .val (.ref c1_a), .val (.ref c1_a)] [(.ref c0_a), (.int p2)])) rfl rfl (hb hby d4_17)
  obtain ⟨T5, X5, e5, st5⟩ := getF X4 hx hZ hown (host := "") (Or.inl (tw_16 hw)) Via.refl e4 f5 (g := (mkF m 24 #[.val (.ref c0_a), .val (.ref c1_a), .val (.ref c1_a)] [(.ref c1_a)])) rfl rfl (hb hby d4_24)
  obtain ⟨T6, X6, e6, st6⟩ := getF X5 hx hZ hown (host := "") (Or.inl (tw_16 hw)) Via.refl e5 f6 (g := (mkF m 28 #[.val (.ref c0_a), .val (.ref c1_a), .val (.ref c1_a)] [(.ref c0_a), (.int p1)])) rfl rfl (hb hby d4_28)
  obtain ⟨fs, hr, hrun, hended, hW, hsame⟩ := X6.leave (v := (some (.int 1))) (fun h => by rw [Bd.returns] at h; cases h)
  refine ⟨_, _, castTop (ef4_RR m c0_a c1_a) ?_, hrun, hended, _, _, rfl, ?_, ⟨_, rfl⟩, hW, hsame.mono (by decide) (by decide)⟩
  · show Steps p.tables e below (s₁.setTop (mkF m 0 #[.val (.ref c0_a), .val (.ref c1_a), .unset] [])) _
    refine XS.aloadN X0.here hx rfl (hb hby d4_0) rfl rfl ?_
    show Steps p.tables e below (s₁.setTop (mkF m 1 #[.val (.ref c0_a), .val (.ref c1_a), .unset] [(.ref c1_a)])) _
    refine st1 _ ?_
    refine XS.ifNo X1.here hx rfl (hb hby d4_4) rfl (by decide) ?_
    refine XS.aloadN X1.here hx rfl (hb hby d4_7) rfl rfl ?_
    show Steps p.tables e below (T1.setTop (mkF m 8 #[.val (.ref c0_a), .val (.ref c1_a), .unset] [(.ref c1_a)])) _
    refine st2 _ ?_
    refine XS.astoreN X2.here hx rfl (hb hby d4_11) rfl rfl (l' := #[.val (.ref c0_a), .val (.ref c1_a), .val (.ref c1_a)]) rfl ?_
    refine XS.aloadN X2.here hx rfl (hb hby d4_12) rfl rfl ?_
    show Steps p.tables e below (T2.setTop (mkF m 13 #[.val (.ref c0_a), .val (.ref c1_a), .val (.ref c1_a)] [(.ref c1_a)])) _
    refine st3 _ ?_
    refine XS.aloadN X3.here hx rfl (hb hby d4_16) rfl rfl ?_
    show Steps p.tables e below (T3.setTop (mkF m 17 #[.val (.ref c0_a), .val (.ref c1_a), .val (.ref c1_a)] [(.ref c0_a), (.int p2)])) _
    refine st4 _ ?_
    refine XS.icmpNo X4.here hx rfl (hb hby d4_20) rfl (teq (f4 : p2 = p0)).2 ?_
    refine XS.aloadN X4.here hx rfl (hb hby d4_23) rfl rfl ?_
    show Steps p.tables e below (T4.setTop (mkF m 24 #[.val (.ref c0_a), .val (.ref c1_a), .val (.ref c1_a)] [(.ref c1_a)])) _
    refine st5 _ ?_
    refine XS.aloadN X5.here hx rfl (hb hby d4_27) rfl rfl ?_
    show Steps p.tables e below (T5.setTop (mkF m 28 #[.val (.ref c0_a), .val (.ref c1_a), .val (.ref c1_a)] [(.ref c0_a), (.int p1)])) _
    refine st6 _ ?_
    refine XS.icmpNo X6.here hx rfl (hb hby d4_31) rfl (teq (rfl : p1 = p1)).2 ?_
    refine XS.iconst X6.here hx rfl (hb hby d4_34) ?_
    refine XS.goto X6.here hx rfl (pc0 := 35) (pc' := 39) rfl (hb hby d4_35) (by decide) (by decide) ?_
    show Steps p.tables e below (T6.setTop (mkF m 39 #[.val (.ref c0_a), .val (.ref c1_a), .val (.ref c1_a)] [(.int 1)])) _
    exact retN X6 hx (t := .boolean) Bd.returns (by simp) (hb hby d4_39) hr
  · show QP (some (.int 1)) h0 n0 _ T6.heap _
    rw [e6]
    exact ⟨rfl, N0, rfl⟩
set_option maxRecDepth 65536 in
set_option maxHeartbeats 40000000 in
theorem rm4_51 (l : Launch) (Z : State) (a0 : Array Value) (hw : ∀ d ∈ tables_1, d.before a0 Z = true) (ws : List Jvm.Cond) (c0_a : Addr) (c1_a : Addr) (p0 : Int32) (p2 : Int32) (p1 : Int32) (h0 : Heap) (n0 : Nat) (Z0 : n0 ≤ h0.size) (f1 : E_1 Z h0 c1_a) (f2 : F_0 Z h0 c1_a (.int p0)) (f3 : F_0 Z h0 c0_a (.int p2)) (f4 : p0 = p2) (f5 : F_1 Z h0 c1_a (.int p1)) (f6 : F_1 Z h0 c0_a (.int p1)) :
    MetFree l M_2 (head1 (Jvm.Cond.code M_2 prog_3_method_4_code 3 (some .boolean) :: ws) R_0_0_0_0) (fun a U => a = #[(.ref c0_a), (.ref c1_a)] ∧ Z.Warmed39 U.vm ∧ U.heap = h0) (fun _ _ _ _ _ => True) (fun _ U o U' => ∃ v L, o = .returned v ∧ QP (some (.int 1)) h0 n0 v U'.heap L ∧ FrameEnd U o U' L R_0_0_0_0.cells R_0_0_0_0.slots) := by
  refine MetFree.of_bodySF (plainFor_of_name pn_hexwright_board_Hex) hisR ?_
  intro p e s m args below meth c s₁ Bd hml0 hP hK
  obtain ⟨rfl, hZ, hh⟩ := hP
  have hx := Bd.exec
  have hby := Bd.bytes
  have hml : c.maxLocals = 3 := hml0
  have hown : s.vm.findClass "hexwright/board/Hex" = some m.cls := findClass_of_methodNamed Bd.named
  have hnm := (name_of_methodNamed Bd.named Bd.method).1
  have X0 : Stand p l e R_0_0_0_0 s m #[(.ref c0_a), (.ref c1_a)] below meth c s₁ [] 0 0 := Stand.of_body Bd
  have e0 : s₁.heap = h0 := by rw [← hh, Bd.state]; rfl
  have N0 := Fr.nil n0
  obtain ⟨T1, X1, e1, st1⟩ := instY X0 hx hZ hown (tw_23 hw) e0 (Ins.self f1) (g := (mkF m 1 #[.val (.ref c0_a), .val (.ref c1_a), .unset] [(.ref c1_a)])) rfl rfl (hb hby d4_1)
  obtain ⟨T2, X2, e2, st2⟩ := castY X1 hx hZ hown (tw_23 hw) e1 (Ins.self f1) (g := (mkF m 8 #[.val (.ref c0_a), .val (.ref c1_a), .unset] [(.ref c1_a)])) rfl rfl (hb hby d4_8)
  obtain ⟨T3, X3, e3, st3⟩ := getF X2 hx hZ hown (host := "") (Or.inl (tw_14 hw)) Via.refl e2 f2 (g := (mkF m 13 #[.val (.ref c0_a), .val (.ref c1_a), .val (.ref c1_a)] [(.ref c1_a)])) rfl rfl (hb hby d4_13)
  obtain ⟨T4, X4, e4, st4⟩ := getF X3 hx hZ hown (host := "") (Or.inl (tw_14 hw)) Via.refl e3 f3 (g := (mkF m 17 #[.val (.ref c0_a), .val (.ref c1_a), .val (.ref c1_a)] [(.ref c0_a), (.int p0)])) rfl rfl (hb hby d4_17)
  obtain ⟨T5, X5, e5, st5⟩ := getF X4 hx hZ hown (host := "") (Or.inl (tw_16 hw)) Via.refl e4 f5 (g := (mkF m 24 #[.val (.ref c0_a), .val (.ref c1_a), .val (.ref c1_a)] [(.ref c1_a)])) rfl rfl (hb hby d4_24)
  obtain ⟨T6, X6, e6, st6⟩ := getF X5 hx hZ hown (host := "") (Or.inl (tw_16 hw)) Via.refl e5 f6 (g := (mkF m 28 #[.val (.ref c0_a), .val (.ref c1_a), .val (.ref c1_a)] [(.ref c0_a), (.int p1)])) rfl rfl (hb hby d4_28)
  obtain ⟨fs, hr, hrun, hended, hW, hsame⟩ := X6.leave (v := (some (.int 1))) (fun h => by rw [Bd.returns] at h; cases h)
  refine ⟨_, _, castTop (ef4_RR m c0_a c1_a) ?_, hrun, hended, _, _, rfl, ?_, ⟨_, rfl⟩, hW, hsame.mono (by decide) (by decide)⟩
  · show Steps p.tables e below (s₁.setTop (mkF m 0 #[.val (.ref c0_a), .val (.ref c1_a), .unset] [])) _
    refine XS.aloadN X0.here hx rfl (hb hby d4_0) rfl rfl ?_
    show Steps p.tables e below (s₁.setTop (mkF m 1 #[.val (.ref c0_a), .val (.ref c1_a), .unset] [(.ref c1_a)])) _
    refine st1 _ ?_
    refine XS.ifNo X1.here hx rfl (hb hby d4_4) rfl (by decide) ?_
    refine XS.aloadN X1.here hx rfl (hb hby d4_7) rfl rfl ?_
    show Steps p.tables e below (T1.setTop (mkF m 8 #[.val (.ref c0_a), .val (.ref c1_a), .unset] [(.ref c1_a)])) _
    refine st2 _ ?_
    refine XS.astoreN X2.here hx rfl (hb hby d4_11) rfl rfl (l' := #[.val (.ref c0_a), .val (.ref c1_a), .val (.ref c1_a)]) rfl ?_
    refine XS.aloadN X2.here hx rfl (hb hby d4_12) rfl rfl ?_
    show Steps p.tables e below (T2.setTop (mkF m 13 #[.val (.ref c0_a), .val (.ref c1_a), .val (.ref c1_a)] [(.ref c1_a)])) _
    refine st3 _ ?_
    refine XS.aloadN X3.here hx rfl (hb hby d4_16) rfl rfl ?_
    show Steps p.tables e below (T3.setTop (mkF m 17 #[.val (.ref c0_a), .val (.ref c1_a), .val (.ref c1_a)] [(.ref c0_a), (.int p0)])) _
    refine st4 _ ?_
    refine XS.icmpNo X4.here hx rfl (hb hby d4_20) rfl (teq (f4 : p0 = p2)).2 ?_
    refine XS.aloadN X4.here hx rfl (hb hby d4_23) rfl rfl ?_
    show Steps p.tables e below (T4.setTop (mkF m 24 #[.val (.ref c0_a), .val (.ref c1_a), .val (.ref c1_a)] [(.ref c1_a)])) _
    refine st5 _ ?_
    refine XS.aloadN X5.here hx rfl (hb hby d4_27) rfl rfl ?_
    show Steps p.tables e below (T5.setTop (mkF m 28 #[.val (.ref c0_a), .val (.ref c1_a), .val (.ref c1_a)] [(.ref c0_a), (.int p1)])) _
    refine st6 _ ?_
    refine XS.icmpNo X6.here hx rfl (hb hby d4_31) rfl (teq (rfl : p1 = p1)).2 ?_
    refine XS.iconst X6.here hx rfl (hb hby d4_34) ?_
    refine XS.goto X6.here hx rfl (pc0 := 35) (pc' := 39) rfl (hb hby d4_35) (by decide) (by decide) ?_
    show Steps p.tables e below (T6.setTop (mkF m 39 #[.val (.ref c0_a), .val (.ref c1_a), .val (.ref c1_a)] [(.int 1)])) _
    exact retN X6 hx (t := .boolean) Bd.returns (by simp) (hb hby d4_39) hr
  · show QP (some (.int 1)) h0 n0 _ T6.heap _
    rw [e6]
    exact ⟨rfl, N0, rfl⟩
set_option maxRecDepth 65536 in
set_option maxHeartbeats 40000000 in
theorem rm0_52 (l : Launch) (Z : State) (a0 : Array Value) (hw : ∀ d ∈ tables_1, d.before a0 Z = true) (ws : List Jvm.Cond) (p0 : Int32) (p1 : Int32) (p2 : Int32) (p3 : Int32) (p4 : Int32) (h0 : Heap) (n0 : Nat) (Z0 : n0 ≤ h0.size) (f1 : (p4 &&& (1 : Int32)) = (0 : Int32)) (f2 : ¬ ((p4 &&& (2 : Int32)) = (0 : Int32))) (f3 : (((p4.toUInt32 >>> ((2 : Int32) &&& 31).toUInt32).toInt32) &&& (3 : Int32)) = (0 : Int32)) (f4 : p2 = p0) (f5 : p0 = p2) :
    MetFree l x (head1 (Jvm.Cond.code x code maxLocals ret :: ws) room_1) (fun a U => a = #[(.int p0), (.int p1), (.int p2), (.int p3), (.int p4)] ∧ Z.Warmed39 U.vm ∧ U.heap = h0) (fun _ _ _ _ _ => True) (fun _ U o U' => ∃ v L, o = .returned v ∧ QT n0 v U'.heap L ∧ FrameEnd U o U' L room_1.cells room_1.slots) := by
  refine MetFree.of_bodySF (plainFor_of_name pn_hexwright_board_HexEqualsPinLaw) hisR ?_
  intro p e s m args below meth c s₁ Bd hml0 hP hK
  obtain ⟨rfl, hZ, hh⟩ := hP
  have hx := Bd.exec
  have hby := Bd.bytes
  have hml : c.maxLocals = 11 := hml0
  have hown : s.vm.findClass "hexwright/board/HexEqualsPinLaw" = some m.cls := findClass_of_methodNamed Bd.named
  have hnm := (name_of_methodNamed Bd.named Bd.method).1
  have X0 : Stand p l e room_1 s m #[(.int p0), (.int p1), (.int p2), (.int p3), (.int p4)] below meth c s₁ [] 0 0 := Stand.of_body Bd
  have e0 : s₁.heap = h0 := by rw [← hh, Bd.state]; rfl
  have N0 := Fr.nil n0
  obtain ⟨T1, h1, X1, e1, E1, A1, D1, -, st1⟩ := newO X0 hx hZ hown (tw_0 hw) (tw_1 hw) (tw_2 hw) e0 (g := (mkF m 36 #[.val (.int p0), .val (.int p1), .val (.int p2), .val (.int p3), .val (.int p4), .val (.int p2), .val (.int p1), .val (.int 0), .unset, .unset, .unset] [])) rfl (hb hby at_36) (by decide) (by decide)
  obtain ⟨b46, g1⟩ : ∃ z, z = h0.size := ⟨_, rfl⟩
  rw [← g1] at A1 D1 st1
  have sz_b46 : h0.size ≤ b46 := Nat.le_trans (Nat.le_refl _) (Nat.le_of_eq g1.symm)
  have g_b46 : n0 ≤ b46 := Nat.le_trans Z0 sz_b46
  have KK1 : Keep h0 h1 [] := (Keep.refl h0 []).ext E1
  have F1_15 : F_0 Z h1 b46 (.int 0) := D1 (Or.inr (tw_15 hw)) (ty := .int) (by decide)
  have F1_17 : F_1 Z h1 b46 (.int 0) := D1 (Or.inr (tw_17 hw)) (ty := .int) (by decide)
  -- pc 42: hexwright/board/Hex.<init>
  obtain ⟨_, _, ⟨T2, L2, k2, n2⟩, -, X2, ⟨Lc2, hQ2, l2, y2, z2⟩, st2⟩ := X1.specialBack hx (y := M_1) rfl hown (mvT hZ (tw_3 hw)) (mvT hZ (tw_4 hw)) (mvT hZ (tw_5 hw)) (by decide) (backOf (W := 1) (rm1_3 l Z a0 hw [] b46 p0 p1 h1 n0 (Nat.le_trans Z0 KK1.1) F1_15 A1 g_b46 F1_17) hZ (tw_5 hw) (tw_2 hw) (by decide) (by decide)) (g := (mkF m 42 #[.val (.int p0), .val (.int p1), .val (.int p2), .val (.int p3), .val (.int p4), .val (.int p2), .val (.int p1), .val (.int 0), .unset, .unset, .unset] [(.int p1), (.int p0), (.ref b46), (.ref b46)])) rfl (by rw [hml]; rfl) (Steps.refl _) (a := b46) (argsL := [(.int p0), (.int p1)]) (rest := [(.ref b46)]) (lenOf pd_1 rfl) rfl (by show 2 * 0 + _ ≤ _; exact Nat.le_of_eq rfl) (hb hby at_42) (fun _ _ => ⟨rfl, e1, (by decide : 1 + 0 ≤ _), (by decide : 2 + 0 ≤ _)⟩)
  dsimp only [Pt.U, Pt.locs, Pt.cells, Pt.slots] at X2 l2 y2 z2 st2 hQ2
  subst l2 y2 z2
  obtain ⟨rfl, Nq2, K2, o2_0, o2_1⟩ := hQ2
  have N2 := Fr.app N0 Nq2
  have KK2 : Keep h0 T2.heap [] := KK1.trans K2 (fun x hx => (List.mem_cons.mp hx).elim (fun q => q ▸ (Or.inr sz_b46)) (fun hx => nomatch hx))
  obtain ⟨T3, h3, X3, e3, E3, A3, D3, -, st3⟩ := newO X2 hx hZ hown (tw_0 hw) (tw_1 hw) (tw_2 hw) rfl (g := (mkF m 47 #[.val (.int p0), .val (.int p1), .val (.int p2), .val (.int p3), .val (.int p4), .val (.int p2), .val (.int p1), .val (.int 0), .val (.ref b46), .unset, .unset] [])) rfl (hb hby at_47) (by decide) (by decide)
  obtain ⟨b47, g3⟩ : ∃ z, z = T2.heap.size := ⟨_, rfl⟩
  rw [← g3] at A3 D3 st3
  have sz_b47 : h0.size ≤ b47 := Nat.le_trans KK2.1 (Nat.le_of_eq g3.symm)
  have g_b47 : n0 ≤ b47 := Nat.le_trans Z0 sz_b47
  have KK3 : Keep h0 h3 [] := KK2.ext E3
  have F3_15 : F_0 Z h3 b47 (.int 0) := D3 (Or.inr (tw_15 hw)) (ty := .int) (by decide)
  have F3_17 : F_1 Z h3 b47 (.int 0) := D3 (Or.inr (tw_17 hw)) (ty := .int) (by decide)
  -- pc 55: hexwright/board/Hex.<init>
  obtain ⟨_, _, ⟨T4, L4, k4, n4⟩, -, X4, ⟨Lc4, hQ4, l4, y4, z4⟩, st4⟩ := X3.specialBack hx (y := M_1) rfl hown (mvT hZ (tw_3 hw)) (mvT hZ (tw_4 hw)) (mvT hZ (tw_5 hw)) (by decide) (backOf (W := 1) (rm1_48 l Z a0 hw [] b47 p2 p1 h3 n0 (Nat.le_trans Z0 KK3.1) F3_15 A3 g_b47 F3_17) hZ (tw_5 hw) (tw_2 hw) (by decide) (by decide)) (g := (mkF m 55 #[.val (.int p0), .val (.int p1), .val (.int p2), .val (.int p3), .val (.int p4), .val (.int p2), .val (.int p1), .val (.int 0), .val (.ref b46), .unset, .unset] [(.int p1), (.int p2), (.ref b47), (.ref b47)])) rfl (by rw [hml]; rfl) (Steps.refl _) (a := b47) (argsL := [(.int p2), (.int p1)]) (rest := [(.ref b47)]) (lenOf pd_1 rfl) rfl (by show 2 * 0 + _ ≤ _; exact Nat.le_of_eq rfl) (hb hby at_55) (fun _ _ => ⟨rfl, e3, (by decide : 2 + 0 ≤ _), (by decide : 4 + 0 ≤ _)⟩)
  dsimp only [Pt.U, Pt.locs, Pt.cells, Pt.slots] at X4 l4 y4 z4 st4 hQ4
  subst l4 y4 z4
  obtain ⟨rfl, Nq4, K4, o4_0, o4_1⟩ := hQ4
  have N4 := Fr.app N2 Nq4
  have KK4 : Keep h0 T4.heap [] := KK3.trans K4 (fun x hx => (List.mem_cons.mp hx).elim (fun q => q ▸ (Or.inr sz_b47)) (fun hx => nomatch hx))
  -- pc 88: hexwright/board/Hex.equals
  have u5 : E_1 Z T4.heap b47 := Exa.keep A3 K4
  have u6 : F_0 Z h3 b46 (.int p0) := Fld.ext E3 o2_0
  have u7 : E_1 Z T2.heap b46 := Exa.keep A1 K2
  have ne8 : b46 ≠ b47 := Nat.ne_of_lt (Nat.lt_of_lt_of_le (Exa.lt u7) (Nat.le_of_eq g3.symm))
  have u9 : F_0 Z T4.heap b46 (.int p0) := Fld.keep u6 K4 (own_notin ne8 List.not_mem_nil)
  have u10 : F_1 Z h3 b46 (.int p1) := Fld.ext E3 o2_1
  have u11 : F_1 Z T4.heap b46 (.int p1) := Fld.keep u10 K4 (own_notin ne8 List.not_mem_nil)
  have u13 : E_1 Z h3 b46 := Exa.ext E3 u7
  have u14 : E_1 Z T4.heap b46 := Exa.keep u13 K4
  obtain ⟨cq12, kq12, q12a, q12b, q12c⟩ := isOf hZ rfl u14
  obtain ⟨_, _, ⟨T12, L12, k12, n12⟩, -, X12, ⟨Lc12, hQ12, l12, y12, z12⟩, st12⟩ := X4.virtualBack hx (y := M_2) (z := M_2) hown (mvT hZ (tw_18 hw)) (mvT hZ (tw_19 hw)) (notFace_of_selects (args := #[]) (mvT hZ (tw_21 hw))) (mvT hZ (tw_21 hw)) (mvT hZ (tw_20 hw)) (by decide) (backOf (W := 0) (rm4_50 l Z a0 hw [] b46 b47 p2 p0 p1 T4.heap n0 (Nat.le_trans Z0 KK4.1) u5 o4_0 u9 f4 o4_1 u11) hZ (tw_22 hw) (tw_2 hw) (by decide) (by decide)) q12a q12c (g := (mkF m 88 #[.val (.int p0), .val (.int p1), .val (.int p2), .val (.int p3), .val (.int p4), .val (.int p2), .val (.int p1), .val (.int 0), .val (.ref b46), .val (.ref b47), .val (.int 1)] [(.ref b47), (.ref b46)])) rfl (by rw [hml]; rfl) (Steps.refl _) (argsL := [(.ref b47)]) (rest := []) (lenOf pd_2 rfl) rfl (by show 2 * 0 + _ ≤ _; exact Nat.le_of_eq rfl) (hb hby at_88) (fun _ _ => ⟨rfl, rfl, (by decide : 2 + 0 ≤ _), (by decide : 4 + 0 ≤ _)⟩)
  dsimp only [Pt.U, Pt.locs, Pt.cells, Pt.slots] at X12 l12 y12 z12 st12 hQ12
  subst l12 y12 z12
  obtain ⟨rfl, Nq12, e12⟩ := hQ12
  have N12 := Fr.app N4 Nq12
  -- pc 100: hexwright/board/Hex.equals
  obtain ⟨cq15, kq15, q15a, q15b, q15c⟩ := isOf hZ e12 u5
  obtain ⟨_, _, ⟨T15, L15, k15, n15⟩, -, X15, ⟨Lc15, hQ15, l15, y15, z15⟩, st15⟩ := X12.virtualBack hx (y := M_2) (z := M_2) hown (mvT hZ (tw_18 hw)) (mvT hZ (tw_19 hw)) (notFace_of_selects (args := #[]) (mvT hZ (tw_21 hw))) (mvT hZ (tw_21 hw)) (mvT hZ (tw_20 hw)) (by decide) (backOf (W := 0) (rm4_51 l Z a0 hw [] b47 b46 p0 p2 p1 T4.heap n0 (Nat.le_trans Z0 KK4.1) u14 u9 o4_0 f5 u11 o4_1) hZ (tw_22 hw) (tw_2 hw) (by decide) (by decide)) q15a q15c (g := (mkF m 100 #[.val (.int p0), .val (.int p1), .val (.int p2), .val (.int p3), .val (.int p4), .val (.int p2), .val (.int p1), .val (.int 0), .val (.ref b46), .val (.ref b47), .val (.int 1)] [(.ref b46), (.ref b47)])) rfl (by rw [hml]; rfl) (Steps.refl _) (argsL := [(.ref b46)]) (rest := []) (lenOf pd_2 rfl) rfl (by show 2 * 0 + _ ≤ _; exact Nat.le_of_eq rfl) (hb hby at_100) (fun _ _ => ⟨rfl, e12, (by decide : 2 + 0 ≤ _), (by decide : 4 + 0 ≤ _)⟩)
  dsimp only [Pt.U, Pt.locs, Pt.cells, Pt.slots] at X15 l15 y15 z15 st15 hQ15
  subst l15 y15 z15
  obtain ⟨rfl, Nq15, e15⟩ := hQ15
  have N15 := Fr.app N12 Nq15
  obtain ⟨fs, hr, hrun, hended, hW, hsame⟩ := X15.leave (v := (some (.int 1))) (fun h => by rw [Bd.returns] at h; cases h)
  refine ⟨_, _, castTop (ef0_IIIII m p0 p1 p2 p3 p4) ?_, hrun, hended, _, _, rfl, ?_, ⟨_, rfl⟩, hW, hsame.mono (by decide) (by decide)⟩
  · show Steps p.tables e below (s₁.setTop (mkF m 0 #[.val (.int p0), .val (.int p1), .val (.int p2), .val (.int p3), .val (.int p4), .unset, .unset, .unset, .unset, .unset, .unset] [])) _
    refine XS.iload X0.here hx rfl (hb hby at_0) rfl ?_
    refine XS.iconst X0.here hx rfl (hb hby at_2) ?_
    show Steps p.tables e below (s₁.setTop (mkF m 3 #[.val (.int p0), .val (.int p1), .val (.int p2), .val (.int p3), .val (.int p4), .unset, .unset, .unset, .unset, .unset, .unset] [(.int 1), (.int p4)])) _
    refine XS.iand X0.here hx rfl (hb hby at_3) rfl ?_
    refine XS.ifYes X0.here hx rfl (pc0 := 4) (pc' := 11) rfl (hb hby at_4) rfl ((if0 _ _).trans (teq (f1 : (p4 &&& (1 : Int32)) = (0 : Int32))).1) (by decide) (by decide) ?_
    refine XS.iloadN X0.here hx rfl (hb hby at_11) rfl ?_
    refine XS.istore X0.here hx rfl (hb hby at_12) rfl (l' := #[.val (.int p0), .val (.int p1), .val (.int p2), .val (.int p3), .val (.int p4), .val (.int p2), .unset, .unset, .unset, .unset, .unset]) rfl ?_
    refine XS.iload X0.here hx rfl (hb hby at_14) rfl ?_
    show Steps p.tables e below (s₁.setTop (mkF m 16 #[.val (.int p0), .val (.int p1), .val (.int p2), .val (.int p3), .val (.int p4), .val (.int p2), .unset, .unset, .unset, .unset, .unset] [(.int p4)])) _
    refine XS.iconst X0.here hx rfl (hb hby at_16) ?_
    show Steps p.tables e below (s₁.setTop (mkF m 17 #[.val (.int p0), .val (.int p1), .val (.int p2), .val (.int p3), .val (.int p4), .val (.int p2), .unset, .unset, .unset, .unset, .unset] [(.int 2), (.int p4)])) _
    refine XS.iand X0.here hx rfl (hb hby at_17) rfl ?_
    refine XS.ifNo X0.here hx rfl (hb hby at_18) rfl ((if0 _ _).trans (feq (f2 : ¬ ((p4 &&& (2 : Int32)) = (0 : Int32)))).1) ?_
    refine XS.iloadN X0.here hx rfl (hb hby at_21) rfl ?_
    refine XS.goto X0.here hx rfl (pc0 := 22) (pc' := 26) rfl (hb hby at_22) (by decide) (by decide) ?_
    refine XS.istore X0.here hx rfl (hb hby at_26) rfl (l' := #[.val (.int p0), .val (.int p1), .val (.int p2), .val (.int p3), .val (.int p4), .val (.int p2), .val (.int p1), .unset, .unset, .unset, .unset]) rfl ?_
    show Steps p.tables e below (s₁.setTop (mkF m 28 #[.val (.int p0), .val (.int p1), .val (.int p2), .val (.int p3), .val (.int p4), .val (.int p2), .val (.int p1), .unset, .unset, .unset, .unset] [])) _
    refine XS.iload X0.here hx rfl (hb hby at_28) rfl ?_
    refine XS.iconst X0.here hx rfl (hb hby at_30) ?_
    show Steps p.tables e below (s₁.setTop (mkF m 31 #[.val (.int p0), .val (.int p1), .val (.int p2), .val (.int p3), .val (.int p4), .val (.int p2), .val (.int p1), .unset, .unset, .unset, .unset] [(.int 2), (.int p4)])) _
    refine XS.iushr X0.here hx rfl (hb hby at_31) rfl ?_
    refine XS.iconst X0.here hx rfl (hb hby at_32) ?_
    show Steps p.tables e below (s₁.setTop (mkF m 33 #[.val (.int p0), .val (.int p1), .val (.int p2), .val (.int p3), .val (.int p4), .val (.int p2), .val (.int p1), .unset, .unset, .unset, .unset] [(.int 3), (.int ((p4.toUInt32 >>> ((2 : Int32) &&& 31).toUInt32).toInt32))])) _
    refine XS.iand X0.here hx rfl (hb hby at_33) rfl ?_
    show Steps p.tables e below (s₁.setTop (mkF m 34 #[.val (.int p0), .val (.int p1), .val (.int p2), .val (.int p3), .val (.int p4), .val (.int p2), .val (.int p1), .unset, .unset, .unset, .unset] [(.int (((p4.toUInt32 >>> ((2 : Int32) &&& 31).toUInt32).toInt32) &&& (3 : Int32)))])) _
    rw [f3]
    refine XS.istore X0.here hx rfl (hb hby at_34) rfl (l' := #[.val (.int p0), .val (.int p1), .val (.int p2), .val (.int p3), .val (.int p4), .val (.int p2), .val (.int p1), .val (.int 0), .unset, .unset, .unset]) rfl ?_
    show Steps p.tables e below (s₁.setTop (mkF m 36 #[.val (.int p0), .val (.int p1), .val (.int p2), .val (.int p3), .val (.int p4), .val (.int p2), .val (.int p1), .val (.int 0), .unset, .unset, .unset] [])) _
    refine st1 _ ?_
    refine XS.dup X1.here hx rfl (hb hby at_39) rfl rfl ?_
    refine XS.iloadN X1.here hx rfl (hb hby at_40) rfl ?_
    refine XS.iloadN X1.here hx rfl (hb hby at_41) rfl ?_
    show Steps p.tables e below (T1.setTop (mkF m 42 #[.val (.int p0), .val (.int p1), .val (.int p2), .val (.int p3), .val (.int p4), .val (.int p2), .val (.int p1), .val (.int 0), .unset, .unset, .unset] [(.int p1), (.int p0), (.ref b46), (.ref b46)])) _
    refine st2.trans ?_
    refine XS.astore X2.here hx rfl (hb hby at_45) rfl rfl (l' := #[.val (.int p0), .val (.int p1), .val (.int p2), .val (.int p3), .val (.int p4), .val (.int p2), .val (.int p1), .val (.int 0), .val (.ref b46), .unset, .unset]) rfl ?_
    show Steps p.tables e below (T2.setTop (mkF m 47 #[.val (.int p0), .val (.int p1), .val (.int p2), .val (.int p3), .val (.int p4), .val (.int p2), .val (.int p1), .val (.int 0), .val (.ref b46), .unset, .unset] [])) _
    refine st3 _ ?_
    refine XS.dup X3.here hx rfl (hb hby at_50) rfl rfl ?_
    refine XS.iload X3.here hx rfl (hb hby at_51) rfl ?_
    refine XS.iload X3.here hx rfl (hb hby at_53) rfl ?_
    show Steps p.tables e below (T3.setTop (mkF m 55 #[.val (.int p0), .val (.int p1), .val (.int p2), .val (.int p3), .val (.int p4), .val (.int p2), .val (.int p1), .val (.int 0), .val (.ref b46), .unset, .unset] [(.int p1), (.int p2), (.ref b47), (.ref b47)])) _
    refine st4.trans ?_
    refine XS.astore X4.here hx rfl (hb hby at_58) rfl rfl (l' := #[.val (.int p0), .val (.int p1), .val (.int p2), .val (.int p3), .val (.int p4), .val (.int p2), .val (.int p1), .val (.int 0), .val (.ref b46), .val (.ref b47), .unset]) rfl ?_
    refine XS.iload X4.here hx rfl (hb hby at_60) rfl ?_
    refine XS.ifNo X4.here hx rfl (hb hby at_62) rfl (by decide) ?_
    refine XS.iload X4.here hx rfl (hb hby at_65) rfl ?_
    show Steps p.tables e below (T4.setTop (mkF m 67 #[.val (.int p0), .val (.int p1), .val (.int p2), .val (.int p3), .val (.int p4), .val (.int p2), .val (.int p1), .val (.int 0), .val (.ref b46), .val (.ref b47), .unset] [(.int p2)])) _
    refine XS.iloadN X4.here hx rfl (hb hby at_67) rfl ?_
    refine XS.icmpNo X4.here hx rfl (hb hby at_68) rfl (teq (f4 : p2 = p0)).2 ?_
    refine XS.iload X4.here hx rfl (hb hby at_71) rfl ?_
    refine XS.iloadN X4.here hx rfl (hb hby at_73) rfl ?_
    refine XS.icmpNo X4.here hx rfl (hb hby at_74) rfl (teq (rfl : p1 = p1)).2 ?_
    show Steps p.tables e below (T4.setTop (mkF m 77 #[.val (.int p0), .val (.int p1), .val (.int p2), .val (.int p3), .val (.int p4), .val (.int p2), .val (.int p1), .val (.int 0), .val (.ref b46), .val (.ref b47), .unset] [])) _
    refine XS.iconst X4.here hx rfl (hb hby at_77) ?_
    refine XS.goto X4.here hx rfl (pc0 := 78) (pc' := 82) rfl (hb hby at_78) (by decide) (by decide) ?_
    refine XS.istore X4.here hx rfl (hb hby at_82) rfl (l' := #[.val (.int p0), .val (.int p1), .val (.int p2), .val (.int p3), .val (.int p4), .val (.int p2), .val (.int p1), .val (.int 0), .val (.ref b46), .val (.ref b47), .val (.int 1)]) rfl ?_
    refine XS.aload X4.here hx rfl (hb hby at_84) rfl rfl ?_
    refine XS.aload X4.here hx rfl (hb hby at_86) rfl rfl ?_
    show Steps p.tables e below (T4.setTop (mkF m 88 #[.val (.int p0), .val (.int p1), .val (.int p2), .val (.int p3), .val (.int p4), .val (.int p2), .val (.int p1), .val (.int 0), .val (.ref b46), .val (.ref b47), .val (.int 1)] [(.ref b47), (.ref b46)])) _
    refine st12.trans ?_
    refine XS.iload X12.here hx rfl (hb hby at_91) rfl ?_
    refine XS.icmpNo X12.here hx rfl (hb hby at_93) rfl (by decide) ?_
    refine XS.aload X12.here hx rfl (hb hby at_96) rfl rfl ?_
    refine XS.aload X12.here hx rfl (hb hby at_98) rfl rfl ?_
    show Steps p.tables e below (T12.setTop (mkF m 100 #[.val (.int p0), .val (.int p1), .val (.int p2), .val (.int p3), .val (.int p4), .val (.int p2), .val (.int p1), .val (.int 0), .val (.ref b46), .val (.ref b47), .val (.int 1)] [(.ref b46), (.ref b47)])) _
    refine st15.trans ?_
    refine XS.iload X15.here hx rfl (hb hby at_103) rfl ?_
    refine XS.icmpNo X15.here hx rfl (hb hby at_105) rfl (by decide) ?_
    refine XS.iconst X15.here hx rfl (hb hby at_108) ?_
    refine XS.goto X15.here hx rfl (pc0 := 109) (pc' := 113) rfl (hb hby at_109) (by decide) (by decide) ?_
    show Steps p.tables e below (T15.setTop (mkF m 113 #[.val (.int p0), .val (.int p1), .val (.int p2), .val (.int p3), .val (.int p4), .val (.int p2), .val (.int p1), .val (.int 0), .val (.ref b46), .val (.ref b47), .val (.int 1)] [(.int 1)])) _
    exact retN X15 hx (t := .boolean) Bd.returns (by simp) (hb hby at_113) hr
  · show QT n0 _ T15.heap _
    rw [e15]
    exact ⟨rfl, N15⟩
set_option maxRecDepth 65536 in
set_option maxHeartbeats 40000000 in
theorem rm0_55 (l : Launch) (Z : State) (a0 : Array Value) (hw : ∀ d ∈ tables_1, d.before a0 Z = true) (ws : List Jvm.Cond) (p0 : Int32) (p1 : Int32) (p2 : Int32) (p3 : Int32) (p4 : Int32) (h0 : Heap) (n0 : Nat) (Z0 : n0 ≤ h0.size) (f1 : (p4 &&& (1 : Int32)) = (0 : Int32)) (f2 : ¬ ((p4 &&& (2 : Int32)) = (0 : Int32))) (f3 : (((p4.toUInt32 >>> ((2 : Int32) &&& 31).toUInt32).toInt32) &&& (3 : Int32)) = (0 : Int32)) (f4 : ¬ (p2 = p0)) (f5 : ¬ (p0 = p2)) :
    MetFree l x (head1 (Jvm.Cond.code x code maxLocals ret :: ws) room_1) (fun a U => a = #[(.int p0), (.int p1), (.int p2), (.int p3), (.int p4)] ∧ Z.Warmed39 U.vm ∧ U.heap = h0) (fun _ _ _ _ _ => True) (fun _ U o U' => ∃ v L, o = .returned v ∧ QT n0 v U'.heap L ∧ FrameEnd U o U' L room_1.cells room_1.slots) := by
  refine MetFree.of_bodySF (plainFor_of_name pn_hexwright_board_HexEqualsPinLaw) hisR ?_
  intro p e s m args below meth c s₁ Bd hml0 hP hK
  obtain ⟨rfl, hZ, hh⟩ := hP
  have hx := Bd.exec
  have hby := Bd.bytes
  have hml : c.maxLocals = 11 := hml0
  have hown : s.vm.findClass "hexwright/board/HexEqualsPinLaw" = some m.cls := findClass_of_methodNamed Bd.named
  have hnm := (name_of_methodNamed Bd.named Bd.method).1
  have X0 : Stand p l e room_1 s m #[(.int p0), (.int p1), (.int p2), (.int p3), (.int p4)] below meth c s₁ [] 0 0 := Stand.of_body Bd
  have e0 : s₁.heap = h0 := by rw [← hh, Bd.state]; rfl
  have N0 := Fr.nil n0
  obtain ⟨T1, h1, X1, e1, E1, A1, D1, -, st1⟩ := newO X0 hx hZ hown (tw_0 hw) (tw_1 hw) (tw_2 hw) e0 (g := (mkF m 36 #[.val (.int p0), .val (.int p1), .val (.int p2), .val (.int p3), .val (.int p4), .val (.int p2), .val (.int p1), .val (.int 0), .unset, .unset, .unset] [])) rfl (hb hby at_36) (by decide) (by decide)
  obtain ⟨b53, g1⟩ : ∃ z, z = h0.size := ⟨_, rfl⟩
  rw [← g1] at A1 D1 st1
  have sz_b53 : h0.size ≤ b53 := Nat.le_trans (Nat.le_refl _) (Nat.le_of_eq g1.symm)
  have g_b53 : n0 ≤ b53 := Nat.le_trans Z0 sz_b53
  have KK1 : Keep h0 h1 [] := (Keep.refl h0 []).ext E1
  have F1_15 : F_0 Z h1 b53 (.int 0) := D1 (Or.inr (tw_15 hw)) (ty := .int) (by decide)
  have F1_17 : F_1 Z h1 b53 (.int 0) := D1 (Or.inr (tw_17 hw)) (ty := .int) (by decide)
  -- pc 42: hexwright/board/Hex.<init>
  obtain ⟨_, _, ⟨T2, L2, k2, n2⟩, -, X2, ⟨Lc2, hQ2, l2, y2, z2⟩, st2⟩ := X1.specialBack hx (y := M_1) rfl hown (mvT hZ (tw_3 hw)) (mvT hZ (tw_4 hw)) (mvT hZ (tw_5 hw)) (by decide) (backOf (W := 1) (rm1_3 l Z a0 hw [] b53 p0 p1 h1 n0 (Nat.le_trans Z0 KK1.1) F1_15 A1 g_b53 F1_17) hZ (tw_5 hw) (tw_2 hw) (by decide) (by decide)) (g := (mkF m 42 #[.val (.int p0), .val (.int p1), .val (.int p2), .val (.int p3), .val (.int p4), .val (.int p2), .val (.int p1), .val (.int 0), .unset, .unset, .unset] [(.int p1), (.int p0), (.ref b53), (.ref b53)])) rfl (by rw [hml]; rfl) (Steps.refl _) (a := b53) (argsL := [(.int p0), (.int p1)]) (rest := [(.ref b53)]) (lenOf pd_1 rfl) rfl (by show 2 * 0 + _ ≤ _; exact Nat.le_of_eq rfl) (hb hby at_42) (fun _ _ => ⟨rfl, e1, (by decide : 1 + 0 ≤ _), (by decide : 2 + 0 ≤ _)⟩)
  dsimp only [Pt.U, Pt.locs, Pt.cells, Pt.slots] at X2 l2 y2 z2 st2 hQ2
  subst l2 y2 z2
  obtain ⟨rfl, Nq2, K2, o2_0, o2_1⟩ := hQ2
  have N2 := Fr.app N0 Nq2
  have KK2 : Keep h0 T2.heap [] := KK1.trans K2 (fun x hx => (List.mem_cons.mp hx).elim (fun q => q ▸ (Or.inr sz_b53)) (fun hx => nomatch hx))
  obtain ⟨T3, h3, X3, e3, E3, A3, D3, -, st3⟩ := newO X2 hx hZ hown (tw_0 hw) (tw_1 hw) (tw_2 hw) rfl (g := (mkF m 47 #[.val (.int p0), .val (.int p1), .val (.int p2), .val (.int p3), .val (.int p4), .val (.int p2), .val (.int p1), .val (.int 0), .val (.ref b53), .unset, .unset] [])) rfl (hb hby at_47) (by decide) (by decide)
  obtain ⟨b54, g3⟩ : ∃ z, z = T2.heap.size := ⟨_, rfl⟩
  rw [← g3] at A3 D3 st3
  have sz_b54 : h0.size ≤ b54 := Nat.le_trans KK2.1 (Nat.le_of_eq g3.symm)
  have g_b54 : n0 ≤ b54 := Nat.le_trans Z0 sz_b54
  have KK3 : Keep h0 h3 [] := KK2.ext E3
  have F3_15 : F_0 Z h3 b54 (.int 0) := D3 (Or.inr (tw_15 hw)) (ty := .int) (by decide)
  have F3_17 : F_1 Z h3 b54 (.int 0) := D3 (Or.inr (tw_17 hw)) (ty := .int) (by decide)
  -- pc 55: hexwright/board/Hex.<init>
  obtain ⟨_, _, ⟨T4, L4, k4, n4⟩, -, X4, ⟨Lc4, hQ4, l4, y4, z4⟩, st4⟩ := X3.specialBack hx (y := M_1) rfl hown (mvT hZ (tw_3 hw)) (mvT hZ (tw_4 hw)) (mvT hZ (tw_5 hw)) (by decide) (backOf (W := 1) (rm1_48 l Z a0 hw [] b54 p2 p1 h3 n0 (Nat.le_trans Z0 KK3.1) F3_15 A3 g_b54 F3_17) hZ (tw_5 hw) (tw_2 hw) (by decide) (by decide)) (g := (mkF m 55 #[.val (.int p0), .val (.int p1), .val (.int p2), .val (.int p3), .val (.int p4), .val (.int p2), .val (.int p1), .val (.int 0), .val (.ref b53), .unset, .unset] [(.int p1), (.int p2), (.ref b54), (.ref b54)])) rfl (by rw [hml]; rfl) (Steps.refl _) (a := b54) (argsL := [(.int p2), (.int p1)]) (rest := [(.ref b54)]) (lenOf pd_1 rfl) rfl (by show 2 * 0 + _ ≤ _; exact Nat.le_of_eq rfl) (hb hby at_55) (fun _ _ => ⟨rfl, e3, (by decide : 2 + 0 ≤ _), (by decide : 4 + 0 ≤ _)⟩)
  dsimp only [Pt.U, Pt.locs, Pt.cells, Pt.slots] at X4 l4 y4 z4 st4 hQ4
  subst l4 y4 z4
  obtain ⟨rfl, Nq4, K4, o4_0, o4_1⟩ := hQ4
  have N4 := Fr.app N2 Nq4
  have KK4 : Keep h0 T4.heap [] := KK3.trans K4 (fun x hx => (List.mem_cons.mp hx).elim (fun q => q ▸ (Or.inr sz_b54)) (fun hx => nomatch hx))
  -- pc 88: hexwright/board/Hex.equals
  have u5 : E_1 Z T4.heap b54 := Exa.keep A3 K4
  have u6 : F_0 Z h3 b53 (.int p0) := Fld.ext E3 o2_0
  have u7 : E_1 Z T2.heap b53 := Exa.keep A1 K2
  have ne8 : b53 ≠ b54 := Nat.ne_of_lt (Nat.lt_of_lt_of_le (Exa.lt u7) (Nat.le_of_eq g3.symm))
  have u9 : F_0 Z T4.heap b53 (.int p0) := Fld.keep u6 K4 (own_notin ne8 List.not_mem_nil)
  have u11 : E_1 Z h3 b53 := Exa.ext E3 u7
  have u12 : E_1 Z T4.heap b53 := Exa.keep u11 K4
  obtain ⟨cq10, kq10, q10a, q10b, q10c⟩ := isOf hZ rfl u12
  obtain ⟨_, _, ⟨T10, L10, k10, n10⟩, -, X10, ⟨Lc10, hQ10, l10, y10, z10⟩, st10⟩ := X4.virtualBack hx (y := M_2) (z := M_2) hown (mvT hZ (tw_18 hw)) (mvT hZ (tw_19 hw)) (notFace_of_selects (args := #[]) (mvT hZ (tw_21 hw))) (mvT hZ (tw_21 hw)) (mvT hZ (tw_20 hw)) (by decide) (backOf (W := 0) (rm4_18 l Z a0 hw [] b53 b54 p2 p0 T4.heap n0 (Nat.le_trans Z0 KK4.1) u5 o4_0 u9 f4) hZ (tw_22 hw) (tw_2 hw) (by decide) (by decide)) q10a q10c (g := (mkF m 88 #[.val (.int p0), .val (.int p1), .val (.int p2), .val (.int p3), .val (.int p4), .val (.int p2), .val (.int p1), .val (.int 0), .val (.ref b53), .val (.ref b54), .val (.int 0)] [(.ref b54), (.ref b53)])) rfl (by rw [hml]; rfl) (Steps.refl _) (argsL := [(.ref b54)]) (rest := []) (lenOf pd_2 rfl) rfl (by show 2 * 0 + _ ≤ _; exact Nat.le_of_eq rfl) (hb hby at_88) (fun _ _ => ⟨rfl, rfl, (by decide : 2 + 0 ≤ _), (by decide : 4 + 0 ≤ _)⟩)
  dsimp only [Pt.U, Pt.locs, Pt.cells, Pt.slots] at X10 l10 y10 z10 st10 hQ10
  subst l10 y10 z10
  obtain ⟨rfl, Nq10, e10⟩ := hQ10
  have N10 := Fr.app N4 Nq10
  -- pc 100: hexwright/board/Hex.equals
  obtain ⟨cq13, kq13, q13a, q13b, q13c⟩ := isOf hZ e10 u5
  obtain ⟨_, _, ⟨T13, L13, k13, n13⟩, -, X13, ⟨Lc13, hQ13, l13, y13, z13⟩, st13⟩ := X10.virtualBack hx (y := M_2) (z := M_2) hown (mvT hZ (tw_18 hw)) (mvT hZ (tw_19 hw)) (notFace_of_selects (args := #[]) (mvT hZ (tw_21 hw))) (mvT hZ (tw_21 hw)) (mvT hZ (tw_20 hw)) (by decide) (backOf (W := 0) (rm4_19 l Z a0 hw [] b54 b53 p0 p2 T4.heap n0 (Nat.le_trans Z0 KK4.1) u12 u9 o4_0 f5) hZ (tw_22 hw) (tw_2 hw) (by decide) (by decide)) q13a q13c (g := (mkF m 100 #[.val (.int p0), .val (.int p1), .val (.int p2), .val (.int p3), .val (.int p4), .val (.int p2), .val (.int p1), .val (.int 0), .val (.ref b53), .val (.ref b54), .val (.int 0)] [(.ref b53), (.ref b54)])) rfl (by rw [hml]; rfl) (Steps.refl _) (argsL := [(.ref b53)]) (rest := []) (lenOf pd_2 rfl) rfl (by show 2 * 0 + _ ≤ _; exact Nat.le_of_eq rfl) (hb hby at_100) (fun _ _ => ⟨rfl, e10, (by decide : 2 + 0 ≤ _), (by decide : 4 + 0 ≤ _)⟩)
  dsimp only [Pt.U, Pt.locs, Pt.cells, Pt.slots] at X13 l13 y13 z13 st13 hQ13
  subst l13 y13 z13
  obtain ⟨rfl, Nq13, e13⟩ := hQ13
  have N13 := Fr.app N10 Nq13
  obtain ⟨fs, hr, hrun, hended, hW, hsame⟩ := X13.leave (v := (some (.int 1))) (fun h => by rw [Bd.returns] at h; cases h)
  refine ⟨_, _, castTop (ef0_IIIII m p0 p1 p2 p3 p4) ?_, hrun, hended, _, _, rfl, ?_, ⟨_, rfl⟩, hW, hsame.mono (by decide) (by decide)⟩
  · show Steps p.tables e below (s₁.setTop (mkF m 0 #[.val (.int p0), .val (.int p1), .val (.int p2), .val (.int p3), .val (.int p4), .unset, .unset, .unset, .unset, .unset, .unset] [])) _
    refine XS.iload X0.here hx rfl (hb hby at_0) rfl ?_
    refine XS.iconst X0.here hx rfl (hb hby at_2) ?_
    show Steps p.tables e below (s₁.setTop (mkF m 3 #[.val (.int p0), .val (.int p1), .val (.int p2), .val (.int p3), .val (.int p4), .unset, .unset, .unset, .unset, .unset, .unset] [(.int 1), (.int p4)])) _
    refine XS.iand X0.here hx rfl (hb hby at_3) rfl ?_
    refine XS.ifYes X0.here hx rfl (pc0 := 4) (pc' := 11) rfl (hb hby at_4) rfl ((if0 _ _).trans (teq (f1 : (p4 &&& (1 : Int32)) = (0 : Int32))).1) (by decide) (by decide) ?_
    refine XS.iloadN X0.here hx rfl (hb hby at_11) rfl ?_
    refine XS.istore X0.here hx rfl (hb hby at_12) rfl (l' := #[.val (.int p0), .val (.int p1), .val (.int p2), .val (.int p3), .val (.int p4), .val (.int p2), .unset, .unset, .unset, .unset, .unset]) rfl ?_
    refine XS.iload X0.here hx rfl (hb hby at_14) rfl ?_
    show Steps p.tables e below (s₁.setTop (mkF m 16 #[.val (.int p0), .val (.int p1), .val (.int p2), .val (.int p3), .val (.int p4), .val (.int p2), .unset, .unset, .unset, .unset, .unset] [(.int p4)])) _
    refine XS.iconst X0.here hx rfl (hb hby at_16) ?_
    show Steps p.tables e below (s₁.setTop (mkF m 17 #[.val (.int p0), .val (.int p1), .val (.int p2), .val (.int p3), .val (.int p4), .val (.int p2), .unset, .unset, .unset, .unset, .unset] [(.int 2), (.int p4)])) _
    refine XS.iand X0.here hx rfl (hb hby at_17) rfl ?_
    refine XS.ifNo X0.here hx rfl (hb hby at_18) rfl ((if0 _ _).trans (feq (f2 : ¬ ((p4 &&& (2 : Int32)) = (0 : Int32)))).1) ?_
    refine XS.iloadN X0.here hx rfl (hb hby at_21) rfl ?_
    refine XS.goto X0.here hx rfl (pc0 := 22) (pc' := 26) rfl (hb hby at_22) (by decide) (by decide) ?_
    refine XS.istore X0.here hx rfl (hb hby at_26) rfl (l' := #[.val (.int p0), .val (.int p1), .val (.int p2), .val (.int p3), .val (.int p4), .val (.int p2), .val (.int p1), .unset, .unset, .unset, .unset]) rfl ?_
    show Steps p.tables e below (s₁.setTop (mkF m 28 #[.val (.int p0), .val (.int p1), .val (.int p2), .val (.int p3), .val (.int p4), .val (.int p2), .val (.int p1), .unset, .unset, .unset, .unset] [])) _
    refine XS.iload X0.here hx rfl (hb hby at_28) rfl ?_
    refine XS.iconst X0.here hx rfl (hb hby at_30) ?_
    show Steps p.tables e below (s₁.setTop (mkF m 31 #[.val (.int p0), .val (.int p1), .val (.int p2), .val (.int p3), .val (.int p4), .val (.int p2), .val (.int p1), .unset, .unset, .unset, .unset] [(.int 2), (.int p4)])) _
    refine XS.iushr X0.here hx rfl (hb hby at_31) rfl ?_
    refine XS.iconst X0.here hx rfl (hb hby at_32) ?_
    show Steps p.tables e below (s₁.setTop (mkF m 33 #[.val (.int p0), .val (.int p1), .val (.int p2), .val (.int p3), .val (.int p4), .val (.int p2), .val (.int p1), .unset, .unset, .unset, .unset] [(.int 3), (.int ((p4.toUInt32 >>> ((2 : Int32) &&& 31).toUInt32).toInt32))])) _
    refine XS.iand X0.here hx rfl (hb hby at_33) rfl ?_
    show Steps p.tables e below (s₁.setTop (mkF m 34 #[.val (.int p0), .val (.int p1), .val (.int p2), .val (.int p3), .val (.int p4), .val (.int p2), .val (.int p1), .unset, .unset, .unset, .unset] [(.int (((p4.toUInt32 >>> ((2 : Int32) &&& 31).toUInt32).toInt32) &&& (3 : Int32)))])) _
    rw [f3]
    refine XS.istore X0.here hx rfl (hb hby at_34) rfl (l' := #[.val (.int p0), .val (.int p1), .val (.int p2), .val (.int p3), .val (.int p4), .val (.int p2), .val (.int p1), .val (.int 0), .unset, .unset, .unset]) rfl ?_
    show Steps p.tables e below (s₁.setTop (mkF m 36 #[.val (.int p0), .val (.int p1), .val (.int p2), .val (.int p3), .val (.int p4), .val (.int p2), .val (.int p1), .val (.int 0), .unset, .unset, .unset] [])) _
    refine st1 _ ?_
    refine XS.dup X1.here hx rfl (hb hby at_39) rfl rfl ?_
    refine XS.iloadN X1.here hx rfl (hb hby at_40) rfl ?_
    refine XS.iloadN X1.here hx rfl (hb hby at_41) rfl ?_
    show Steps p.tables e below (T1.setTop (mkF m 42 #[.val (.int p0), .val (.int p1), .val (.int p2), .val (.int p3), .val (.int p4), .val (.int p2), .val (.int p1), .val (.int 0), .unset, .unset, .unset] [(.int p1), (.int p0), (.ref b53), (.ref b53)])) _
    refine st2.trans ?_
    refine XS.astore X2.here hx rfl (hb hby at_45) rfl rfl (l' := #[.val (.int p0), .val (.int p1), .val (.int p2), .val (.int p3), .val (.int p4), .val (.int p2), .val (.int p1), .val (.int 0), .val (.ref b53), .unset, .unset]) rfl ?_
    show Steps p.tables e below (T2.setTop (mkF m 47 #[.val (.int p0), .val (.int p1), .val (.int p2), .val (.int p3), .val (.int p4), .val (.int p2), .val (.int p1), .val (.int 0), .val (.ref b53), .unset, .unset] [])) _
    refine st3 _ ?_
    refine XS.dup X3.here hx rfl (hb hby at_50) rfl rfl ?_
    refine XS.iload X3.here hx rfl (hb hby at_51) rfl ?_
    refine XS.iload X3.here hx rfl (hb hby at_53) rfl ?_
    show Steps p.tables e below (T3.setTop (mkF m 55 #[.val (.int p0), .val (.int p1), .val (.int p2), .val (.int p3), .val (.int p4), .val (.int p2), .val (.int p1), .val (.int 0), .val (.ref b53), .unset, .unset] [(.int p1), (.int p2), (.ref b54), (.ref b54)])) _
    refine st4.trans ?_
    refine XS.astore X4.here hx rfl (hb hby at_58) rfl rfl (l' := #[.val (.int p0), .val (.int p1), .val (.int p2), .val (.int p3), .val (.int p4), .val (.int p2), .val (.int p1), .val (.int 0), .val (.ref b53), .val (.ref b54), .unset]) rfl ?_
    refine XS.iload X4.here hx rfl (hb hby at_60) rfl ?_
    refine XS.ifNo X4.here hx rfl (hb hby at_62) rfl (by decide) ?_
    refine XS.iload X4.here hx rfl (hb hby at_65) rfl ?_
    show Steps p.tables e below (T4.setTop (mkF m 67 #[.val (.int p0), .val (.int p1), .val (.int p2), .val (.int p3), .val (.int p4), .val (.int p2), .val (.int p1), .val (.int 0), .val (.ref b53), .val (.ref b54), .unset] [(.int p2)])) _
    refine XS.iloadN X4.here hx rfl (hb hby at_67) rfl ?_
    refine XS.icmpYes X4.here hx rfl (pc0 := 68) (pc' := 81) rfl (hb hby at_68) rfl (feq (f4 : ¬ (p2 = p0))).2 (by decide) (by decide) ?_
    refine XS.iconst X4.here hx rfl (hb hby at_81) ?_
    refine XS.istore X4.here hx rfl (hb hby at_82) rfl (l' := #[.val (.int p0), .val (.int p1), .val (.int p2), .val (.int p3), .val (.int p4), .val (.int p2), .val (.int p1), .val (.int 0), .val (.ref b53), .val (.ref b54), .val (.int 0)]) rfl ?_
    refine XS.aload X4.here hx rfl (hb hby at_84) rfl rfl ?_
    show Steps p.tables e below (T4.setTop (mkF m 86 #[.val (.int p0), .val (.int p1), .val (.int p2), .val (.int p3), .val (.int p4), .val (.int p2), .val (.int p1), .val (.int 0), .val (.ref b53), .val (.ref b54), .val (.int 0)] [(.ref b53)])) _
    refine XS.aload X4.here hx rfl (hb hby at_86) rfl rfl ?_
    show Steps p.tables e below (T4.setTop (mkF m 88 #[.val (.int p0), .val (.int p1), .val (.int p2), .val (.int p3), .val (.int p4), .val (.int p2), .val (.int p1), .val (.int 0), .val (.ref b53), .val (.ref b54), .val (.int 0)] [(.ref b54), (.ref b53)])) _
    refine st10.trans ?_
    refine XS.iload X10.here hx rfl (hb hby at_91) rfl ?_
    refine XS.icmpNo X10.here hx rfl (hb hby at_93) rfl (by decide) ?_
    refine XS.aload X10.here hx rfl (hb hby at_96) rfl rfl ?_
    refine XS.aload X10.here hx rfl (hb hby at_98) rfl rfl ?_
    show Steps p.tables e below (T10.setTop (mkF m 100 #[.val (.int p0), .val (.int p1), .val (.int p2), .val (.int p3), .val (.int p4), .val (.int p2), .val (.int p1), .val (.int 0), .val (.ref b53), .val (.ref b54), .val (.int 0)] [(.ref b53), (.ref b54)])) _
    refine st13.trans ?_
    refine XS.iload X13.here hx rfl (hb hby at_103) rfl ?_
    refine XS.icmpNo X13.here hx rfl (hb hby at_105) rfl (by decide) ?_
    refine XS.iconst X13.here hx rfl (hb hby at_108) ?_
    refine XS.goto X13.here hx rfl (pc0 := 109) (pc' := 113) rfl (hb hby at_109) (by decide) (by decide) ?_
    show Steps p.tables e below (T13.setTop (mkF m 113 #[.val (.int p0), .val (.int p1), .val (.int p2), .val (.int p3), .val (.int p4), .val (.int p2), .val (.int p1), .val (.int 0), .val (.ref b53), .val (.ref b54), .val (.int 0)] [(.int 1)])) _
    exact retN X13 hx (t := .boolean) Bd.returns (by simp) (hb hby at_113) hr
  · show QT n0 _ T13.heap _
    rw [e13]
    exact ⟨rfl, N13⟩
set_option maxRecDepth 65536 in
set_option maxHeartbeats 40000000 in
theorem rm0_58 (l : Launch) (Z : State) (a0 : Array Value) (hw : ∀ d ∈ tables_1, d.before a0 Z = true) (ws : List Jvm.Cond) (p0 : Int32) (p1 : Int32) (p2 : Int32) (p3 : Int32) (p4 : Int32) (h0 : Heap) (n0 : Nat) (Z0 : n0 ≤ h0.size) (f1 : (p4 &&& (1 : Int32)) = (0 : Int32)) (f2 : ¬ ((p4 &&& (2 : Int32)) = (0 : Int32))) (f3 : (((p4.toUInt32 >>> ((2 : Int32) &&& 31).toUInt32).toInt32) &&& (3 : Int32)) = (1 : Int32)) :
    MetFree l x (head1 (Jvm.Cond.code x code maxLocals ret :: ws) room_1) (fun a U => a = #[(.int p0), (.int p1), (.int p2), (.int p3), (.int p4)] ∧ Z.Warmed39 U.vm ∧ U.heap = h0) (fun _ _ _ _ _ => True) (fun _ U o U' => ∃ v L, o = .returned v ∧ QT n0 v U'.heap L ∧ FrameEnd U o U' L room_1.cells room_1.slots) := by
  refine MetFree.of_bodySF (plainFor_of_name pn_hexwright_board_HexEqualsPinLaw) hisR ?_
  intro p e s m args below meth c s₁ Bd hml0 hP hK
  obtain ⟨rfl, hZ, hh⟩ := hP
  have hx := Bd.exec
  have hby := Bd.bytes
  have hml : c.maxLocals = 11 := hml0
  have hown : s.vm.findClass "hexwright/board/HexEqualsPinLaw" = some m.cls := findClass_of_methodNamed Bd.named
  have hnm := (name_of_methodNamed Bd.named Bd.method).1
  have X0 : Stand p l e room_1 s m #[(.int p0), (.int p1), (.int p2), (.int p3), (.int p4)] below meth c s₁ [] 0 0 := Stand.of_body Bd
  have e0 : s₁.heap = h0 := by rw [← hh, Bd.state]; rfl
  have N0 := Fr.nil n0
  obtain ⟨T1, h1, X1, e1, E1, A1, D1, -, st1⟩ := newO X0 hx hZ hown (tw_0 hw) (tw_1 hw) (tw_2 hw) e0 (g := (mkF m 36 #[.val (.int p0), .val (.int p1), .val (.int p2), .val (.int p3), .val (.int p4), .val (.int p2), .val (.int p1), .val (.int 1), .unset, .unset, .unset] [])) rfl (hb hby at_36) (by decide) (by decide)
  obtain ⟨b56, g1⟩ : ∃ z, z = h0.size := ⟨_, rfl⟩
  rw [← g1] at A1 D1 st1
  have sz_b56 : h0.size ≤ b56 := Nat.le_trans (Nat.le_refl _) (Nat.le_of_eq g1.symm)
  have g_b56 : n0 ≤ b56 := Nat.le_trans Z0 sz_b56
  have KK1 : Keep h0 h1 [] := (Keep.refl h0 []).ext E1
  have F1_15 : F_0 Z h1 b56 (.int 0) := D1 (Or.inr (tw_15 hw)) (ty := .int) (by decide)
  have F1_17 : F_1 Z h1 b56 (.int 0) := D1 (Or.inr (tw_17 hw)) (ty := .int) (by decide)
  -- pc 42: hexwright/board/Hex.<init>
  obtain ⟨_, _, ⟨T2, L2, k2, n2⟩, -, X2, ⟨Lc2, hQ2, l2, y2, z2⟩, st2⟩ := X1.specialBack hx (y := M_1) rfl hown (mvT hZ (tw_3 hw)) (mvT hZ (tw_4 hw)) (mvT hZ (tw_5 hw)) (by decide) (backOf (W := 1) (rm1_3 l Z a0 hw [] b56 p0 p1 h1 n0 (Nat.le_trans Z0 KK1.1) F1_15 A1 g_b56 F1_17) hZ (tw_5 hw) (tw_2 hw) (by decide) (by decide)) (g := (mkF m 42 #[.val (.int p0), .val (.int p1), .val (.int p2), .val (.int p3), .val (.int p4), .val (.int p2), .val (.int p1), .val (.int 1), .unset, .unset, .unset] [(.int p1), (.int p0), (.ref b56), (.ref b56)])) rfl (by rw [hml]; rfl) (Steps.refl _) (a := b56) (argsL := [(.int p0), (.int p1)]) (rest := [(.ref b56)]) (lenOf pd_1 rfl) rfl (by show 2 * 0 + _ ≤ _; exact Nat.le_of_eq rfl) (hb hby at_42) (fun _ _ => ⟨rfl, e1, (by decide : 1 + 0 ≤ _), (by decide : 2 + 0 ≤ _)⟩)
  dsimp only [Pt.U, Pt.locs, Pt.cells, Pt.slots] at X2 l2 y2 z2 st2 hQ2
  subst l2 y2 z2
  obtain ⟨rfl, Nq2, K2, o2_0, o2_1⟩ := hQ2
  have N2 := Fr.app N0 Nq2
  have KK2 : Keep h0 T2.heap [] := KK1.trans K2 (fun x hx => (List.mem_cons.mp hx).elim (fun q => q ▸ (Or.inr sz_b56)) (fun hx => nomatch hx))
  obtain ⟨T3, h3, X3, e3, E3, A3, D3, -, st3⟩ := newO X2 hx hZ hown (tw_0 hw) (tw_1 hw) (tw_2 hw) rfl (g := (mkF m 47 #[.val (.int p0), .val (.int p1), .val (.int p2), .val (.int p3), .val (.int p4), .val (.int p2), .val (.int p1), .val (.int 1), .val (.ref b56), .unset, .unset] [])) rfl (hb hby at_47) (by decide) (by decide)
  obtain ⟨b57, g3⟩ : ∃ z, z = T2.heap.size := ⟨_, rfl⟩
  rw [← g3] at A3 D3 st3
  have sz_b57 : h0.size ≤ b57 := Nat.le_trans KK2.1 (Nat.le_of_eq g3.symm)
  have g_b57 : n0 ≤ b57 := Nat.le_trans Z0 sz_b57
  have KK3 : Keep h0 h3 [] := KK2.ext E3
  have F3_15 : F_0 Z h3 b57 (.int 0) := D3 (Or.inr (tw_15 hw)) (ty := .int) (by decide)
  have F3_17 : F_1 Z h3 b57 (.int 0) := D3 (Or.inr (tw_17 hw)) (ty := .int) (by decide)
  -- pc 55: hexwright/board/Hex.<init>
  obtain ⟨_, _, ⟨T4, L4, k4, n4⟩, -, X4, ⟨Lc4, hQ4, l4, y4, z4⟩, st4⟩ := X3.specialBack hx (y := M_1) rfl hown (mvT hZ (tw_3 hw)) (mvT hZ (tw_4 hw)) (mvT hZ (tw_5 hw)) (by decide) (backOf (W := 1) (rm1_48 l Z a0 hw [] b57 p2 p1 h3 n0 (Nat.le_trans Z0 KK3.1) F3_15 A3 g_b57 F3_17) hZ (tw_5 hw) (tw_2 hw) (by decide) (by decide)) (g := (mkF m 55 #[.val (.int p0), .val (.int p1), .val (.int p2), .val (.int p3), .val (.int p4), .val (.int p2), .val (.int p1), .val (.int 1), .val (.ref b56), .unset, .unset] [(.int p1), (.int p2), (.ref b57), (.ref b57)])) rfl (by rw [hml]; rfl) (Steps.refl _) (a := b57) (argsL := [(.int p2), (.int p1)]) (rest := [(.ref b57)]) (lenOf pd_1 rfl) rfl (by show 2 * 0 + _ ≤ _; exact Nat.le_of_eq rfl) (hb hby at_55) (fun _ _ => ⟨rfl, e3, (by decide : 2 + 0 ≤ _), (by decide : 4 + 0 ≤ _)⟩)
  dsimp only [Pt.U, Pt.locs, Pt.cells, Pt.slots] at X4 l4 y4 z4 st4 hQ4
  subst l4 y4 z4
  obtain ⟨rfl, Nq4, K4, o4_0, o4_1⟩ := hQ4
  have N4 := Fr.app N2 Nq4
  have KK4 : Keep h0 T4.heap [] := KK3.trans K4 (fun x hx => (List.mem_cons.mp hx).elim (fun q => q ▸ (Or.inr sz_b57)) (fun hx => nomatch hx))
  -- pc 123: hexwright/board/Hex.equals
  have u6 : E_1 Z T2.heap b56 := Exa.keep A1 K2
  have u7 : E_1 Z h3 b56 := Exa.ext E3 u6
  have u8 : E_1 Z T4.heap b56 := Exa.keep u7 K4
  obtain ⟨cq5, kq5, q5a, q5b, q5c⟩ := isOf hZ rfl u8
  obtain ⟨_, _, ⟨T5, L5, k5, n5⟩, -, X5, ⟨Lc5, hQ5, l5, y5, z5⟩, st5⟩ := X4.virtualBack hx (y := M_2) (z := M_2) hown (mvT hZ (tw_18 hw)) (mvT hZ (tw_19 hw)) (notFace_of_selects (args := #[]) (mvT hZ (tw_21 hw))) (mvT hZ (tw_21 hw)) (mvT hZ (tw_20 hw)) (by decide) (backOf (W := 0) (rm4_23 l Z a0 hw [] b56 T4.heap n0 (Nat.le_trans Z0 KK4.1) ) hZ (tw_22 hw) (tw_2 hw) (by decide) (by decide)) q5a q5c (g := (mkF m 123 #[.val (.int p0), .val (.int p1), .val (.int p2), .val (.int p3), .val (.int p4), .val (.int p2), .val (.int p1), .val (.int 1), .val (.ref b56), .val (.ref b57), .unset] [.null, (.ref b56)])) rfl (by rw [hml]; rfl) (Steps.refl _) (argsL := [.null]) (rest := []) (lenOf pd_2 rfl) rfl (by show 2 * 0 + _ ≤ _; exact Nat.le_of_eq rfl) (hb hby at_123) (fun _ _ => ⟨rfl, rfl, (by decide : 2 + 0 ≤ _), (by decide : 4 + 0 ≤ _)⟩)
  dsimp only [Pt.U, Pt.locs, Pt.cells, Pt.slots] at X5 l5 y5 z5 st5 hQ5
  subst l5 y5 z5
  obtain ⟨rfl, Nq5, e5⟩ := hQ5
  have N5 := Fr.app N4 Nq5
  obtain ⟨fs, hr, hrun, hended, hW, hsame⟩ := X5.leave (v := (some (.int 1))) (fun h => by rw [Bd.returns] at h; cases h)
  refine ⟨_, _, castTop (ef0_IIIII m p0 p1 p2 p3 p4) ?_, hrun, hended, _, _, rfl, ?_, ⟨_, rfl⟩, hW, hsame.mono (by decide) (by decide)⟩
  · show Steps p.tables e below (s₁.setTop (mkF m 0 #[.val (.int p0), .val (.int p1), .val (.int p2), .val (.int p3), .val (.int p4), .unset, .unset, .unset, .unset, .unset, .unset] [])) _
    refine XS.iload X0.here hx rfl (hb hby at_0) rfl ?_
    refine XS.iconst X0.here hx rfl (hb hby at_2) ?_
    show Steps p.tables e below (s₁.setTop (mkF m 3 #[.val (.int p0), .val (.int p1), .val (.int p2), .val (.int p3), .val (.int p4), .unset, .unset, .unset, .unset, .unset, .unset] [(.int 1), (.int p4)])) _
    refine XS.iand X0.here hx rfl (hb hby at_3) rfl ?_
    refine XS.ifYes X0.here hx rfl (pc0 := 4) (pc' := 11) rfl (hb hby at_4) rfl ((if0 _ _).trans (teq (f1 : (p4 &&& (1 : Int32)) = (0 : Int32))).1) (by decide) (by decide) ?_
    refine XS.iloadN X0.here hx rfl (hb hby at_11) rfl ?_
    refine XS.istore X0.here hx rfl (hb hby at_12) rfl (l' := #[.val (.int p0), .val (.int p1), .val (.int p2), .val (.int p3), .val (.int p4), .val (.int p2), .unset, .unset, .unset, .unset, .unset]) rfl ?_
    refine XS.iload X0.here hx rfl (hb hby at_14) rfl ?_
    show Steps p.tables e below (s₁.setTop (mkF m 16 #[.val (.int p0), .val (.int p1), .val (.int p2), .val (.int p3), .val (.int p4), .val (.int p2), .unset, .unset, .unset, .unset, .unset] [(.int p4)])) _
    refine XS.iconst X0.here hx rfl (hb hby at_16) ?_
    show Steps p.tables e below (s₁.setTop (mkF m 17 #[.val (.int p0), .val (.int p1), .val (.int p2), .val (.int p3), .val (.int p4), .val (.int p2), .unset, .unset, .unset, .unset, .unset] [(.int 2), (.int p4)])) _
    refine XS.iand X0.here hx rfl (hb hby at_17) rfl ?_
    refine XS.ifNo X0.here hx rfl (hb hby at_18) rfl ((if0 _ _).trans (feq (f2 : ¬ ((p4 &&& (2 : Int32)) = (0 : Int32)))).1) ?_
    refine XS.iloadN X0.here hx rfl (hb hby at_21) rfl ?_
    refine XS.goto X0.here hx rfl (pc0 := 22) (pc' := 26) rfl (hb hby at_22) (by decide) (by decide) ?_
    refine XS.istore X0.here hx rfl (hb hby at_26) rfl (l' := #[.val (.int p0), .val (.int p1), .val (.int p2), .val (.int p3), .val (.int p4), .val (.int p2), .val (.int p1), .unset, .unset, .unset, .unset]) rfl ?_
    show Steps p.tables e below (s₁.setTop (mkF m 28 #[.val (.int p0), .val (.int p1), .val (.int p2), .val (.int p3), .val (.int p4), .val (.int p2), .val (.int p1), .unset, .unset, .unset, .unset] [])) _
    refine XS.iload X0.here hx rfl (hb hby at_28) rfl ?_
    refine XS.iconst X0.here hx rfl (hb hby at_30) ?_
    show Steps p.tables e below (s₁.setTop (mkF m 31 #[.val (.int p0), .val (.int p1), .val (.int p2), .val (.int p3), .val (.int p4), .val (.int p2), .val (.int p1), .unset, .unset, .unset, .unset] [(.int 2), (.int p4)])) _
    refine XS.iushr X0.here hx rfl (hb hby at_31) rfl ?_
    refine XS.iconst X0.here hx rfl (hb hby at_32) ?_
    show Steps p.tables e below (s₁.setTop (mkF m 33 #[.val (.int p0), .val (.int p1), .val (.int p2), .val (.int p3), .val (.int p4), .val (.int p2), .val (.int p1), .unset, .unset, .unset, .unset] [(.int 3), (.int ((p4.toUInt32 >>> ((2 : Int32) &&& 31).toUInt32).toInt32))])) _
    refine XS.iand X0.here hx rfl (hb hby at_33) rfl ?_
    show Steps p.tables e below (s₁.setTop (mkF m 34 #[.val (.int p0), .val (.int p1), .val (.int p2), .val (.int p3), .val (.int p4), .val (.int p2), .val (.int p1), .unset, .unset, .unset, .unset] [(.int (((p4.toUInt32 >>> ((2 : Int32) &&& 31).toUInt32).toInt32) &&& (3 : Int32)))])) _
    rw [f3]
    refine XS.istore X0.here hx rfl (hb hby at_34) rfl (l' := #[.val (.int p0), .val (.int p1), .val (.int p2), .val (.int p3), .val (.int p4), .val (.int p2), .val (.int p1), .val (.int 1), .unset, .unset, .unset]) rfl ?_
    show Steps p.tables e below (s₁.setTop (mkF m 36 #[.val (.int p0), .val (.int p1), .val (.int p2), .val (.int p3), .val (.int p4), .val (.int p2), .val (.int p1), .val (.int 1), .unset, .unset, .unset] [])) _
    refine st1 _ ?_
    refine XS.dup X1.here hx rfl (hb hby at_39) rfl rfl ?_
    refine XS.iloadN X1.here hx rfl (hb hby at_40) rfl ?_
    refine XS.iloadN X1.here hx rfl (hb hby at_41) rfl ?_
    show Steps p.tables e below (T1.setTop (mkF m 42 #[.val (.int p0), .val (.int p1), .val (.int p2), .val (.int p3), .val (.int p4), .val (.int p2), .val (.int p1), .val (.int 1), .unset, .unset, .unset] [(.int p1), (.int p0), (.ref b56), (.ref b56)])) _
    refine st2.trans ?_
    refine XS.astore X2.here hx rfl (hb hby at_45) rfl rfl (l' := #[.val (.int p0), .val (.int p1), .val (.int p2), .val (.int p3), .val (.int p4), .val (.int p2), .val (.int p1), .val (.int 1), .val (.ref b56), .unset, .unset]) rfl ?_
    show Steps p.tables e below (T2.setTop (mkF m 47 #[.val (.int p0), .val (.int p1), .val (.int p2), .val (.int p3), .val (.int p4), .val (.int p2), .val (.int p1), .val (.int 1), .val (.ref b56), .unset, .unset] [])) _
    refine st3 _ ?_
    refine XS.dup X3.here hx rfl (hb hby at_50) rfl rfl ?_
    refine XS.iload X3.here hx rfl (hb hby at_51) rfl ?_
    refine XS.iload X3.here hx rfl (hb hby at_53) rfl ?_
    show Steps p.tables e below (T3.setTop (mkF m 55 #[.val (.int p0), .val (.int p1), .val (.int p2), .val (.int p3), .val (.int p4), .val (.int p2), .val (.int p1), .val (.int 1), .val (.ref b56), .unset, .unset] [(.int p1), (.int p2), (.ref b57), (.ref b57)])) _
    refine st4.trans ?_
    refine XS.astore X4.here hx rfl (hb hby at_58) rfl rfl (l' := #[.val (.int p0), .val (.int p1), .val (.int p2), .val (.int p3), .val (.int p4), .val (.int p2), .val (.int p1), .val (.int 1), .val (.ref b56), .val (.ref b57), .unset]) rfl ?_
    refine XS.iload X4.here hx rfl (hb hby at_60) rfl ?_
    refine XS.ifYes X4.here hx rfl (pc0 := 62) (pc' := 114) rfl (hb hby at_62) rfl (by decide) (by decide) (by decide) ?_
    refine XS.iload X4.here hx rfl (hb hby at_114) rfl ?_
    show Steps p.tables e below (T4.setTop (mkF m 116 #[.val (.int p0), .val (.int p1), .val (.int p2), .val (.int p3), .val (.int p4), .val (.int p2), .val (.int p1), .val (.int 1), .val (.ref b56), .val (.ref b57), .unset] [(.int 1)])) _
    refine XS.iconst X4.here hx rfl (hb hby at_116) ?_
    refine XS.icmpNo X4.here hx rfl (hb hby at_117) rfl (by decide) ?_
    refine XS.aload X4.here hx rfl (hb hby at_120) rfl rfl ?_
    refine XS.aconstNull X4.here hx rfl (hb hby at_122) ?_
    show Steps p.tables e below (T4.setTop (mkF m 123 #[.val (.int p0), .val (.int p1), .val (.int p2), .val (.int p3), .val (.int p4), .val (.int p2), .val (.int p1), .val (.int 1), .val (.ref b56), .val (.ref b57), .unset] [.null, (.ref b56)])) _
    refine st5.trans ?_
    refine XS.ifNo X5.here hx rfl (hb hby at_126) rfl (by decide) ?_
    refine XS.iconst X5.here hx rfl (hb hby at_129) ?_
    refine XS.goto X5.here hx rfl (pc0 := 130) (pc' := 134) rfl (hb hby at_130) (by decide) (by decide) ?_
    show Steps p.tables e below (T5.setTop (mkF m 134 #[.val (.int p0), .val (.int p1), .val (.int p2), .val (.int p3), .val (.int p4), .val (.int p2), .val (.int p1), .val (.int 1), .val (.ref b56), .val (.ref b57), .unset] [(.int 1)])) _
    exact retN X5 hx (t := .boolean) Bd.returns (by simp) (hb hby at_134) hr
  · show QT n0 _ T5.heap _
    rw [e5]
    exact ⟨rfl, N5⟩
set_option maxRecDepth 65536 in
set_option maxHeartbeats 40000000 in
theorem rm0_62 (l : Launch) (Z : State) (a0 : Array Value) (hw : ∀ d ∈ tables_1, d.before a0 Z = true) (ws : List Jvm.Cond) (p0 : Int32) (p1 : Int32) (p2 : Int32) (p3 : Int32) (p4 : Int32) (a_cache : Addr) (h0 : Heap) (n0 : Nat) (Z0 : n0 ≤ h0.size) (f1 : (p4 &&& (1 : Int32)) = (0 : Int32)) (f2 : ¬ ((p4 &&& (2 : Int32)) = (0 : Int32))) (f3 : (((p4.toUInt32 >>> ((2 : Int32) &&& 31).toUInt32).toInt32) &&& (3 : Int32)) = (2 : Int32)) (f4 : S_0 Z h0 (.int 127)) (f5 : S_1 Z h0 (.ref a_cache)) (f6 : OwnAll Z h0 a_cache "java/lang/Integer") (f7 : E_0 Z h0 a_cache) :
    MetFree l x (head1 (Jvm.Cond.code x code maxLocals ret :: ws) room_1) (fun a U => a = #[(.int p0), (.int p1), (.int p2), (.int p3), (.int p4)] ∧ Z.Warmed39 U.vm ∧ U.heap = h0) (fun _ _ _ _ _ => True) (fun _ U o U' => ∃ v L, o = .returned v ∧ QT n0 v U'.heap L ∧ FrameEnd U o U' L room_1.cells room_1.slots) := by
  refine MetFree.of_bodySF (plainFor_of_name pn_hexwright_board_HexEqualsPinLaw) hisR ?_
  intro p e s m args below meth c s₁ Bd hml0 hP hK
  obtain ⟨rfl, hZ, hh⟩ := hP
  have hx := Bd.exec
  have hby := Bd.bytes
  have hml : c.maxLocals = 11 := hml0
  have hown : s.vm.findClass "hexwright/board/HexEqualsPinLaw" = some m.cls := findClass_of_methodNamed Bd.named
  have hnm := (name_of_methodNamed Bd.named Bd.method).1
  have X0 : Stand p l e room_1 s m #[(.int p0), (.int p1), (.int p2), (.int p3), (.int p4)] below meth c s₁ [] 0 0 := Stand.of_body Bd
  have e0 : s₁.heap = h0 := by rw [← hh, Bd.state]; rfl
  have N0 := Fr.nil n0
  obtain ⟨T1, h1, X1, e1, E1, A1, D1, -, st1⟩ := newO X0 hx hZ hown (tw_0 hw) (tw_1 hw) (tw_2 hw) e0 (g := (mkF m 36 #[.val (.int p0), .val (.int p1), .val (.int p2), .val (.int p3), .val (.int p4), .val (.int p2), .val (.int p1), .val (.int 2), .unset, .unset, .unset] [])) rfl (hb hby at_36) (by decide) (by decide)
  obtain ⟨b59, g1⟩ : ∃ z, z = h0.size := ⟨_, rfl⟩
  rw [← g1] at A1 D1 st1
  have sz_b59 : h0.size ≤ b59 := Nat.le_trans (Nat.le_refl _) (Nat.le_of_eq g1.symm)
  have g_b59 : n0 ≤ b59 := Nat.le_trans Z0 sz_b59
  have KK1 : Keep h0 h1 [] := (Keep.refl h0 []).ext E1
  have F1_15 : F_0 Z h1 b59 (.int 0) := D1 (Or.inr (tw_15 hw)) (ty := .int) (by decide)
  have F1_17 : F_1 Z h1 b59 (.int 0) := D1 (Or.inr (tw_17 hw)) (ty := .int) (by decide)
  -- pc 42: hexwright/board/Hex.<init>
  obtain ⟨_, _, ⟨T2, L2, k2, n2⟩, -, X2, ⟨Lc2, hQ2, l2, y2, z2⟩, st2⟩ := X1.specialBack hx (y := M_1) rfl hown (mvT hZ (tw_3 hw)) (mvT hZ (tw_4 hw)) (mvT hZ (tw_5 hw)) (by decide) (backOf (W := 1) (rm1_3 l Z a0 hw [] b59 p0 p1 h1 n0 (Nat.le_trans Z0 KK1.1) F1_15 A1 g_b59 F1_17) hZ (tw_5 hw) (tw_2 hw) (by decide) (by decide)) (g := (mkF m 42 #[.val (.int p0), .val (.int p1), .val (.int p2), .val (.int p3), .val (.int p4), .val (.int p2), .val (.int p1), .val (.int 2), .unset, .unset, .unset] [(.int p1), (.int p0), (.ref b59), (.ref b59)])) rfl (by rw [hml]; rfl) (Steps.refl _) (a := b59) (argsL := [(.int p0), (.int p1)]) (rest := [(.ref b59)]) (lenOf pd_1 rfl) rfl (by show 2 * 0 + _ ≤ _; exact Nat.le_of_eq rfl) (hb hby at_42) (fun _ _ => ⟨rfl, e1, (by decide : 1 + 0 ≤ _), (by decide : 2 + 0 ≤ _)⟩)
  dsimp only [Pt.U, Pt.locs, Pt.cells, Pt.slots] at X2 l2 y2 z2 st2 hQ2
  subst l2 y2 z2
  obtain ⟨rfl, Nq2, K2, o2_0, o2_1⟩ := hQ2
  have N2 := Fr.app N0 Nq2
  have KK2 : Keep h0 T2.heap [] := KK1.trans K2 (fun x hx => (List.mem_cons.mp hx).elim (fun q => q ▸ (Or.inr sz_b59)) (fun hx => nomatch hx))
  obtain ⟨T3, h3, X3, e3, E3, A3, D3, -, st3⟩ := newO X2 hx hZ hown (tw_0 hw) (tw_1 hw) (tw_2 hw) rfl (g := (mkF m 47 #[.val (.int p0), .val (.int p1), .val (.int p2), .val (.int p3), .val (.int p4), .val (.int p2), .val (.int p1), .val (.int 2), .val (.ref b59), .unset, .unset] [])) rfl (hb hby at_47) (by decide) (by decide)
  obtain ⟨b60, g3⟩ : ∃ z, z = T2.heap.size := ⟨_, rfl⟩
  rw [← g3] at A3 D3 st3
  have sz_b60 : h0.size ≤ b60 := Nat.le_trans KK2.1 (Nat.le_of_eq g3.symm)
  have g_b60 : n0 ≤ b60 := Nat.le_trans Z0 sz_b60
  have KK3 : Keep h0 h3 [] := KK2.ext E3
  have F3_15 : F_0 Z h3 b60 (.int 0) := D3 (Or.inr (tw_15 hw)) (ty := .int) (by decide)
  have F3_17 : F_1 Z h3 b60 (.int 0) := D3 (Or.inr (tw_17 hw)) (ty := .int) (by decide)
  -- pc 55: hexwright/board/Hex.<init>
  obtain ⟨_, _, ⟨T4, L4, k4, n4⟩, -, X4, ⟨Lc4, hQ4, l4, y4, z4⟩, st4⟩ := X3.specialBack hx (y := M_1) rfl hown (mvT hZ (tw_3 hw)) (mvT hZ (tw_4 hw)) (mvT hZ (tw_5 hw)) (by decide) (backOf (W := 1) (rm1_48 l Z a0 hw [] b60 p2 p1 h3 n0 (Nat.le_trans Z0 KK3.1) F3_15 A3 g_b60 F3_17) hZ (tw_5 hw) (tw_2 hw) (by decide) (by decide)) (g := (mkF m 55 #[.val (.int p0), .val (.int p1), .val (.int p2), .val (.int p3), .val (.int p4), .val (.int p2), .val (.int p1), .val (.int 2), .val (.ref b59), .unset, .unset] [(.int p1), (.int p2), (.ref b60), (.ref b60)])) rfl (by rw [hml]; rfl) (Steps.refl _) (a := b60) (argsL := [(.int p2), (.int p1)]) (rest := [(.ref b60)]) (lenOf pd_1 rfl) rfl (by show 2 * 0 + _ ≤ _; exact Nat.le_of_eq rfl) (hb hby at_55) (fun _ _ => ⟨rfl, e3, (by decide : 2 + 0 ≤ _), (by decide : 4 + 0 ≤ _)⟩)
  dsimp only [Pt.U, Pt.locs, Pt.cells, Pt.slots] at X4 l4 y4 z4 st4 hQ4
  subst l4 y4 z4
  obtain ⟨rfl, Nq4, K4, o4_0, o4_1⟩ := hQ4
  have N4 := Fr.app N2 Nq4
  have KK4 : Keep h0 T4.heap [] := KK3.trans K4 (fun x hx => (List.mem_cons.mp hx).elim (fun q => q ▸ (Or.inr sz_b60)) (fun hx => nomatch hx))
  -- pc 144: java/lang/Integer.valueOf
  have u5 : S_0 Z h1 (.int 127) := Sta.ext E1 f4
  have u6 : S_0 Z T2.heap (.int 127) := own_sta_keep u5 K2 (own_ns (Exa.nostat A1) (fun _ q => nomatch q))
  have u7 : S_0 Z h3 (.int 127) := Sta.ext E3 u6
  have u8 : S_0 Z T4.heap (.int 127) := own_sta_keep u7 K4 (own_ns (Exa.nostat A3) (fun _ q => nomatch q))
  have u9 : S_1 Z h1 (.ref a_cache) := Sta.ext E1 f5
  have u10 : S_1 Z T2.heap (.ref a_cache) := own_sta_keep u9 K2 (own_ns (Exa.nostat A1) (fun _ q => nomatch q))
  have u11 : S_1 Z h3 (.ref a_cache) := Sta.ext E3 u10
  have u12 : S_1 Z T4.heap (.ref a_cache) := own_sta_keep u11 K4 (own_ns (Exa.nostat A3) (fun _ q => nomatch q))
  have u13 : OwnAll Z h1 a_cache "java/lang/Integer" := own_all_ext f6 E1
  have ne14 : a_cache ≠ b59 := Nat.ne_of_lt (Nat.lt_of_lt_of_le (Exa.lt f7) (Nat.le_of_eq g1.symm))
  have u15 : OwnAll Z T2.heap a_cache "java/lang/Integer" := own_all_keep u13 K2 (own_notin ne14 List.not_mem_nil)
  have u16 : OwnAll Z h3 a_cache "java/lang/Integer" := own_all_ext u15 E3
  have u17 : E_0 Z h1 a_cache := Exa.ext E1 f7
  have u18 : E_0 Z T2.heap a_cache := Exa.keep u17 K2
  have ne19 : a_cache ≠ b60 := Nat.ne_of_lt (Nat.lt_of_lt_of_le (Exa.lt u18) (Nat.le_of_eq g3.symm))
  have u20 : OwnAll Z T4.heap a_cache "java/lang/Integer" := own_all_keep u16 K4 (own_notin ne19 List.not_mem_nil)
  obtain ⟨_, _, ⟨T21, L21, k21, n21⟩, -, X21, ⟨Lc21, hQ21, l21, y21, z21⟩, st21⟩ := Jvm.LawKit.callS X4 hx (y := M_5) hown (mvT hZ (tw_25 hw)) (mvT hZ (tw_26 hw)) (mvT hZ (tw_27 hw)) (mvT hZ (tw_28 hw)) (by decide) (backOf (W := 1) (rmB_37 l Z a0 hw [] p0 a_cache T4.heap n0 (Nat.le_trans Z0 KK4.1) u8 u12 u20) hZ (tw_28 hw) (tw_27 hw) (by decide) (by decide)) (g := (mkF m 144 #[.val (.int p0), .val (.int p1), .val (.int p2), .val (.int p3), .val (.int p4), .val (.int p2), .val (.int p1), .val (.int 2), .val (.ref b59), .val (.ref b60), .unset] [(.int p0), (.ref b59)])) rfl (by rw [hml]; rfl) (argsL := [(.int p0)]) (rest := [(.ref b59)]) (lenOf pd_4 rfl) rfl (by show 2 * 0 + _ ≤ _; exact Nat.le_of_eq rfl) (hb hby at_144) (fun _ _ => ⟨rfl, rfl, (by decide : 2 + 1 ≤ _), (by decide : 4 + 1 ≤ _)⟩)
  dsimp only [Pt.U, Pt.locs, Pt.cells, Pt.slots] at X21 l21 y21 z21 st21 hQ21
  subst l21 y21 z21
  obtain ⟨bx61, rfl, Nq21, K21, o21_0⟩ := hQ21
  have N21 := Fr.app N4 Nq21
  have KK21 : Keep h0 T21.heap [] := KK4.trans K21 (fun x hx => nomatch hx)
  -- pc 147: hexwright/board/Hex.equals
  have u23 : E_1 Z T2.heap b59 := Exa.keep A1 K2
  have u24 : E_1 Z h3 b59 := Exa.ext E3 u23
  have u25 : E_1 Z T4.heap b59 := Exa.keep u24 K4
  have u26 : E_1 Z T21.heap b59 := Exa.keep u25 K21
  obtain ⟨cq22, kq22, q22a, q22b, q22c⟩ := isOf hZ rfl u26
  obtain ⟨_, _, ⟨T22, L22, k22, n22⟩, -, X22, ⟨Lc22, hQ22, l22, y22, z22⟩, st22⟩ := X21.virtualBack hx (y := M_2) (z := M_2) hown (mvT hZ (tw_18 hw)) (mvT hZ (tw_19 hw)) (notFace_of_selects (args := #[]) (mvT hZ (tw_21 hw))) (mvT hZ (tw_21 hw)) (mvT hZ (tw_20 hw)) (by decide) (backOf (W := 0) (rm4_40 l Z a0 hw [] b59 bx61 T21.heap n0 (Nat.le_trans Z0 KK21.1) o21_0) hZ (tw_22 hw) (tw_2 hw) (by decide) (by decide)) q22a q22c (g := (mkF m 147 #[.val (.int p0), .val (.int p1), .val (.int p2), .val (.int p3), .val (.int p4), .val (.int p2), .val (.int p1), .val (.int 2), .val (.ref b59), .val (.ref b60), .unset] [(.ref bx61), (.ref b59)])) rfl (by rw [hml]; rfl) (Steps.refl _) (argsL := [(.ref bx61)]) (rest := []) (lenOf pd_2 rfl) rfl (by show 2 * 0 + _ ≤ _; exact Nat.le_of_eq rfl) (hb hby at_147) (fun _ _ => ⟨rfl, rfl, (by decide : 3 + 0 ≤ _), (by decide : 5 + 0 ≤ _)⟩)
  dsimp only [Pt.U, Pt.locs, Pt.cells, Pt.slots] at X22 l22 y22 z22 st22 hQ22
  subst l22 y22 z22
  obtain ⟨rfl, Nq22, e22⟩ := hQ22
  have N22 := Fr.app N21 Nq22
  obtain ⟨fs, hr, hrun, hended, hW, hsame⟩ := X22.leave (v := (some (.int 1))) (fun h => by rw [Bd.returns] at h; cases h)
  refine ⟨_, _, castTop (ef0_IIIII m p0 p1 p2 p3 p4) ?_, hrun, hended, _, _, rfl, ?_, ⟨_, rfl⟩, hW, hsame.mono (by decide) (by decide)⟩
  · show Steps p.tables e below (s₁.setTop (mkF m 0 #[.val (.int p0), .val (.int p1), .val (.int p2), .val (.int p3), .val (.int p4), .unset, .unset, .unset, .unset, .unset, .unset] [])) _
    refine XS.iload X0.here hx rfl (hb hby at_0) rfl ?_
    refine XS.iconst X0.here hx rfl (hb hby at_2) ?_
    show Steps p.tables e below (s₁.setTop (mkF m 3 #[.val (.int p0), .val (.int p1), .val (.int p2), .val (.int p3), .val (.int p4), .unset, .unset, .unset, .unset, .unset, .unset] [(.int 1), (.int p4)])) _
    refine XS.iand X0.here hx rfl (hb hby at_3) rfl ?_
    refine XS.ifYes X0.here hx rfl (pc0 := 4) (pc' := 11) rfl (hb hby at_4) rfl ((if0 _ _).trans (teq (f1 : (p4 &&& (1 : Int32)) = (0 : Int32))).1) (by decide) (by decide) ?_
    refine XS.iloadN X0.here hx rfl (hb hby at_11) rfl ?_
    refine XS.istore X0.here hx rfl (hb hby at_12) rfl (l' := #[.val (.int p0), .val (.int p1), .val (.int p2), .val (.int p3), .val (.int p4), .val (.int p2), .unset, .unset, .unset, .unset, .unset]) rfl ?_
    refine XS.iload X0.here hx rfl (hb hby at_14) rfl ?_
    show Steps p.tables e below (s₁.setTop (mkF m 16 #[.val (.int p0), .val (.int p1), .val (.int p2), .val (.int p3), .val (.int p4), .val (.int p2), .unset, .unset, .unset, .unset, .unset] [(.int p4)])) _
    refine XS.iconst X0.here hx rfl (hb hby at_16) ?_
    show Steps p.tables e below (s₁.setTop (mkF m 17 #[.val (.int p0), .val (.int p1), .val (.int p2), .val (.int p3), .val (.int p4), .val (.int p2), .unset, .unset, .unset, .unset, .unset] [(.int 2), (.int p4)])) _
    refine XS.iand X0.here hx rfl (hb hby at_17) rfl ?_
    refine XS.ifNo X0.here hx rfl (hb hby at_18) rfl ((if0 _ _).trans (feq (f2 : ¬ ((p4 &&& (2 : Int32)) = (0 : Int32)))).1) ?_
    refine XS.iloadN X0.here hx rfl (hb hby at_21) rfl ?_
    refine XS.goto X0.here hx rfl (pc0 := 22) (pc' := 26) rfl (hb hby at_22) (by decide) (by decide) ?_
    refine XS.istore X0.here hx rfl (hb hby at_26) rfl (l' := #[.val (.int p0), .val (.int p1), .val (.int p2), .val (.int p3), .val (.int p4), .val (.int p2), .val (.int p1), .unset, .unset, .unset, .unset]) rfl ?_
    show Steps p.tables e below (s₁.setTop (mkF m 28 #[.val (.int p0), .val (.int p1), .val (.int p2), .val (.int p3), .val (.int p4), .val (.int p2), .val (.int p1), .unset, .unset, .unset, .unset] [])) _
    refine XS.iload X0.here hx rfl (hb hby at_28) rfl ?_
    refine XS.iconst X0.here hx rfl (hb hby at_30) ?_
    show Steps p.tables e below (s₁.setTop (mkF m 31 #[.val (.int p0), .val (.int p1), .val (.int p2), .val (.int p3), .val (.int p4), .val (.int p2), .val (.int p1), .unset, .unset, .unset, .unset] [(.int 2), (.int p4)])) _
    refine XS.iushr X0.here hx rfl (hb hby at_31) rfl ?_
    refine XS.iconst X0.here hx rfl (hb hby at_32) ?_
    show Steps p.tables e below (s₁.setTop (mkF m 33 #[.val (.int p0), .val (.int p1), .val (.int p2), .val (.int p3), .val (.int p4), .val (.int p2), .val (.int p1), .unset, .unset, .unset, .unset] [(.int 3), (.int ((p4.toUInt32 >>> ((2 : Int32) &&& 31).toUInt32).toInt32))])) _
    refine XS.iand X0.here hx rfl (hb hby at_33) rfl ?_
    show Steps p.tables e below (s₁.setTop (mkF m 34 #[.val (.int p0), .val (.int p1), .val (.int p2), .val (.int p3), .val (.int p4), .val (.int p2), .val (.int p1), .unset, .unset, .unset, .unset] [(.int (((p4.toUInt32 >>> ((2 : Int32) &&& 31).toUInt32).toInt32) &&& (3 : Int32)))])) _
    rw [f3]
    refine XS.istore X0.here hx rfl (hb hby at_34) rfl (l' := #[.val (.int p0), .val (.int p1), .val (.int p2), .val (.int p3), .val (.int p4), .val (.int p2), .val (.int p1), .val (.int 2), .unset, .unset, .unset]) rfl ?_
    show Steps p.tables e below (s₁.setTop (mkF m 36 #[.val (.int p0), .val (.int p1), .val (.int p2), .val (.int p3), .val (.int p4), .val (.int p2), .val (.int p1), .val (.int 2), .unset, .unset, .unset] [])) _
    refine st1 _ ?_
    refine XS.dup X1.here hx rfl (hb hby at_39) rfl rfl ?_
    refine XS.iloadN X1.here hx rfl (hb hby at_40) rfl ?_
    refine XS.iloadN X1.here hx rfl (hb hby at_41) rfl ?_
    show Steps p.tables e below (T1.setTop (mkF m 42 #[.val (.int p0), .val (.int p1), .val (.int p2), .val (.int p3), .val (.int p4), .val (.int p2), .val (.int p1), .val (.int 2), .unset, .unset, .unset] [(.int p1), (.int p0), (.ref b59), (.ref b59)])) _
    refine st2.trans ?_
    refine XS.astore X2.here hx rfl (hb hby at_45) rfl rfl (l' := #[.val (.int p0), .val (.int p1), .val (.int p2), .val (.int p3), .val (.int p4), .val (.int p2), .val (.int p1), .val (.int 2), .val (.ref b59), .unset, .unset]) rfl ?_
    show Steps p.tables e below (T2.setTop (mkF m 47 #[.val (.int p0), .val (.int p1), .val (.int p2), .val (.int p3), .val (.int p4), .val (.int p2), .val (.int p1), .val (.int 2), .val (.ref b59), .unset, .unset] [])) _
    refine st3 _ ?_
    refine XS.dup X3.here hx rfl (hb hby at_50) rfl rfl ?_
    refine XS.iload X3.here hx rfl (hb hby at_51) rfl ?_
    refine XS.iload X3.here hx rfl (hb hby at_53) rfl ?_
    show Steps p.tables e below (T3.setTop (mkF m 55 #[.val (.int p0), .val (.int p1), .val (.int p2), .val (.int p3), .val (.int p4), .val (.int p2), .val (.int p1), .val (.int 2), .val (.ref b59), .unset, .unset] [(.int p1), (.int p2), (.ref b60), (.ref b60)])) _
    refine st4.trans ?_
    refine XS.astore X4.here hx rfl (hb hby at_58) rfl rfl (l' := #[.val (.int p0), .val (.int p1), .val (.int p2), .val (.int p3), .val (.int p4), .val (.int p2), .val (.int p1), .val (.int 2), .val (.ref b59), .val (.ref b60), .unset]) rfl ?_
    refine XS.iload X4.here hx rfl (hb hby at_60) rfl ?_
    refine XS.ifYes X4.here hx rfl (pc0 := 62) (pc' := 114) rfl (hb hby at_62) rfl (by decide) (by decide) (by decide) ?_
    refine XS.iload X4.here hx rfl (hb hby at_114) rfl ?_
    show Steps p.tables e below (T4.setTop (mkF m 116 #[.val (.int p0), .val (.int p1), .val (.int p2), .val (.int p3), .val (.int p4), .val (.int p2), .val (.int p1), .val (.int 2), .val (.ref b59), .val (.ref b60), .unset] [(.int 2)])) _
    refine XS.iconst X4.here hx rfl (hb hby at_116) ?_
    refine XS.icmpYes X4.here hx rfl (pc0 := 117) (pc' := 135) rfl (hb hby at_117) rfl (by decide) (by decide) (by decide) ?_
    refine XS.iload X4.here hx rfl (hb hby at_135) rfl ?_
    refine XS.iconst X4.here hx rfl (hb hby at_137) ?_
    refine XS.icmpNo X4.here hx rfl (hb hby at_138) rfl (by decide) ?_
    show Steps p.tables e below (T4.setTop (mkF m 141 #[.val (.int p0), .val (.int p1), .val (.int p2), .val (.int p3), .val (.int p4), .val (.int p2), .val (.int p1), .val (.int 2), .val (.ref b59), .val (.ref b60), .unset] [])) _
    refine XS.aload X4.here hx rfl (hb hby at_141) rfl rfl ?_
    refine XS.iloadN X4.here hx rfl (hb hby at_143) rfl ?_
    show Steps p.tables e below (T4.setTop (mkF m 144 #[.val (.int p0), .val (.int p1), .val (.int p2), .val (.int p3), .val (.int p4), .val (.int p2), .val (.int p1), .val (.int 2), .val (.ref b59), .val (.ref b60), .unset] [(.int p0), (.ref b59)])) _
    refine st21 _ ?_
    show Steps p.tables e below (T21.setTop (mkF m 147 #[.val (.int p0), .val (.int p1), .val (.int p2), .val (.int p3), .val (.int p4), .val (.int p2), .val (.int p1), .val (.int 2), .val (.ref b59), .val (.ref b60), .unset] [(.ref bx61), (.ref b59)])) _
    refine st22.trans ?_
    refine XS.ifNo X22.here hx rfl (hb hby at_150) rfl (by decide) ?_
    refine XS.iconst X22.here hx rfl (hb hby at_153) ?_
    refine XS.goto X22.here hx rfl (pc0 := 154) (pc' := 158) rfl (hb hby at_154) (by decide) (by decide) ?_
    show Steps p.tables e below (T22.setTop (mkF m 158 #[.val (.int p0), .val (.int p1), .val (.int p2), .val (.int p3), .val (.int p4), .val (.int p2), .val (.int p1), .val (.int 2), .val (.ref b59), .val (.ref b60), .unset] [(.int 1)])) _
    exact retN X22 hx (t := .boolean) Bd.returns (by simp) (hb hby at_158) hr
  · show QT n0 _ T22.heap _
    rw [e22]
    exact ⟨rfl, N22⟩
set_option maxRecDepth 65536 in
set_option maxHeartbeats 40000000 in
theorem rm0_65 (l : Launch) (Z : State) (a0 : Array Value) (hw : ∀ d ∈ tables_1, d.before a0 Z = true) (ws : List Jvm.Cond) (p0 : Int32) (p1 : Int32) (p2 : Int32) (p3 : Int32) (p4 : Int32) (h0 : Heap) (n0 : Nat) (Z0 : n0 ≤ h0.size) (f1 : (p4 &&& (1 : Int32)) = (0 : Int32)) (f2 : ¬ ((p4 &&& (2 : Int32)) = (0 : Int32))) (f3 : (((p4.toUInt32 >>> ((2 : Int32) &&& 31).toUInt32).toInt32) &&& (3 : Int32)) = (3 : Int32)) :
    MetFree l x (head1 (Jvm.Cond.code x code maxLocals ret :: ws) room_1) (fun a U => a = #[(.int p0), (.int p1), (.int p2), (.int p3), (.int p4)] ∧ Z.Warmed39 U.vm ∧ U.heap = h0) (fun _ _ _ _ _ => True) (fun _ U o U' => ∃ v L, o = .returned v ∧ QT n0 v U'.heap L ∧ FrameEnd U o U' L room_1.cells room_1.slots) := by
  refine MetFree.of_bodySF (plainFor_of_name pn_hexwright_board_HexEqualsPinLaw) hisR ?_
  intro p e s m args below meth c s₁ Bd hml0 hP hK
  obtain ⟨rfl, hZ, hh⟩ := hP
  have hx := Bd.exec
  have hby := Bd.bytes
  have hml : c.maxLocals = 11 := hml0
  have hown : s.vm.findClass "hexwright/board/HexEqualsPinLaw" = some m.cls := findClass_of_methodNamed Bd.named
  have hnm := (name_of_methodNamed Bd.named Bd.method).1
  have X0 : Stand p l e room_1 s m #[(.int p0), (.int p1), (.int p2), (.int p3), (.int p4)] below meth c s₁ [] 0 0 := Stand.of_body Bd
  have e0 : s₁.heap = h0 := by rw [← hh, Bd.state]; rfl
  have N0 := Fr.nil n0
  obtain ⟨T1, h1, X1, e1, E1, A1, D1, -, st1⟩ := newO X0 hx hZ hown (tw_0 hw) (tw_1 hw) (tw_2 hw) e0 (g := (mkF m 36 #[.val (.int p0), .val (.int p1), .val (.int p2), .val (.int p3), .val (.int p4), .val (.int p2), .val (.int p1), .val (.int 3), .unset, .unset, .unset] [])) rfl (hb hby at_36) (by decide) (by decide)
  obtain ⟨b63, g1⟩ : ∃ z, z = h0.size := ⟨_, rfl⟩
  rw [← g1] at A1 D1 st1
  have sz_b63 : h0.size ≤ b63 := Nat.le_trans (Nat.le_refl _) (Nat.le_of_eq g1.symm)
  have g_b63 : n0 ≤ b63 := Nat.le_trans Z0 sz_b63
  have KK1 : Keep h0 h1 [] := (Keep.refl h0 []).ext E1
  have F1_15 : F_0 Z h1 b63 (.int 0) := D1 (Or.inr (tw_15 hw)) (ty := .int) (by decide)
  have F1_17 : F_1 Z h1 b63 (.int 0) := D1 (Or.inr (tw_17 hw)) (ty := .int) (by decide)
  -- pc 42: hexwright/board/Hex.<init>
  obtain ⟨_, _, ⟨T2, L2, k2, n2⟩, -, X2, ⟨Lc2, hQ2, l2, y2, z2⟩, st2⟩ := X1.specialBack hx (y := M_1) rfl hown (mvT hZ (tw_3 hw)) (mvT hZ (tw_4 hw)) (mvT hZ (tw_5 hw)) (by decide) (backOf (W := 1) (rm1_3 l Z a0 hw [] b63 p0 p1 h1 n0 (Nat.le_trans Z0 KK1.1) F1_15 A1 g_b63 F1_17) hZ (tw_5 hw) (tw_2 hw) (by decide) (by decide)) (g := (mkF m 42 #[.val (.int p0), .val (.int p1), .val (.int p2), .val (.int p3), .val (.int p4), .val (.int p2), .val (.int p1), .val (.int 3), .unset, .unset, .unset] [(.int p1), (.int p0), (.ref b63), (.ref b63)])) rfl (by rw [hml]; rfl) (Steps.refl _) (a := b63) (argsL := [(.int p0), (.int p1)]) (rest := [(.ref b63)]) (lenOf pd_1 rfl) rfl (by show 2 * 0 + _ ≤ _; exact Nat.le_of_eq rfl) (hb hby at_42) (fun _ _ => ⟨rfl, e1, (by decide : 1 + 0 ≤ _), (by decide : 2 + 0 ≤ _)⟩)
  dsimp only [Pt.U, Pt.locs, Pt.cells, Pt.slots] at X2 l2 y2 z2 st2 hQ2
  subst l2 y2 z2
  obtain ⟨rfl, Nq2, K2, o2_0, o2_1⟩ := hQ2
  have N2 := Fr.app N0 Nq2
  have KK2 : Keep h0 T2.heap [] := KK1.trans K2 (fun x hx => (List.mem_cons.mp hx).elim (fun q => q ▸ (Or.inr sz_b63)) (fun hx => nomatch hx))
  obtain ⟨T3, h3, X3, e3, E3, A3, D3, -, st3⟩ := newO X2 hx hZ hown (tw_0 hw) (tw_1 hw) (tw_2 hw) rfl (g := (mkF m 47 #[.val (.int p0), .val (.int p1), .val (.int p2), .val (.int p3), .val (.int p4), .val (.int p2), .val (.int p1), .val (.int 3), .val (.ref b63), .unset, .unset] [])) rfl (hb hby at_47) (by decide) (by decide)
  obtain ⟨b64, g3⟩ : ∃ z, z = T2.heap.size := ⟨_, rfl⟩
  rw [← g3] at A3 D3 st3
  have sz_b64 : h0.size ≤ b64 := Nat.le_trans KK2.1 (Nat.le_of_eq g3.symm)
  have g_b64 : n0 ≤ b64 := Nat.le_trans Z0 sz_b64
  have KK3 : Keep h0 h3 [] := KK2.ext E3
  have F3_15 : F_0 Z h3 b64 (.int 0) := D3 (Or.inr (tw_15 hw)) (ty := .int) (by decide)
  have F3_17 : F_1 Z h3 b64 (.int 0) := D3 (Or.inr (tw_17 hw)) (ty := .int) (by decide)
  -- pc 55: hexwright/board/Hex.<init>
  obtain ⟨_, _, ⟨T4, L4, k4, n4⟩, -, X4, ⟨Lc4, hQ4, l4, y4, z4⟩, st4⟩ := X3.specialBack hx (y := M_1) rfl hown (mvT hZ (tw_3 hw)) (mvT hZ (tw_4 hw)) (mvT hZ (tw_5 hw)) (by decide) (backOf (W := 1) (rm1_48 l Z a0 hw [] b64 p2 p1 h3 n0 (Nat.le_trans Z0 KK3.1) F3_15 A3 g_b64 F3_17) hZ (tw_5 hw) (tw_2 hw) (by decide) (by decide)) (g := (mkF m 55 #[.val (.int p0), .val (.int p1), .val (.int p2), .val (.int p3), .val (.int p4), .val (.int p2), .val (.int p1), .val (.int 3), .val (.ref b63), .unset, .unset] [(.int p1), (.int p2), (.ref b64), (.ref b64)])) rfl (by rw [hml]; rfl) (Steps.refl _) (a := b64) (argsL := [(.int p2), (.int p1)]) (rest := [(.ref b64)]) (lenOf pd_1 rfl) rfl (by show 2 * 0 + _ ≤ _; exact Nat.le_of_eq rfl) (hb hby at_55) (fun _ _ => ⟨rfl, e3, (by decide : 2 + 0 ≤ _), (by decide : 4 + 0 ≤ _)⟩)
  dsimp only [Pt.U, Pt.locs, Pt.cells, Pt.slots] at X4 l4 y4 z4 st4 hQ4
  subst l4 y4 z4
  obtain ⟨rfl, Nq4, K4, o4_0, o4_1⟩ := hQ4
  have N4 := Fr.app N2 Nq4
  have KK4 : Keep h0 T4.heap [] := KK3.trans K4 (fun x hx => (List.mem_cons.mp hx).elim (fun q => q ▸ (Or.inr sz_b64)) (fun hx => nomatch hx))
  -- pc 163: hexwright/board/Hex.equals
  have u5 : E_1 Z T2.heap b63 := Exa.keep A1 K2
  have u6 : E_1 Z h3 b63 := Exa.ext E3 u5
  have u7 : E_1 Z T4.heap b63 := Exa.keep u6 K4
  have u8 : F_0 Z h3 b63 (.int p0) := Fld.ext E3 o2_0
  have ne9 : b63 ≠ b64 := Nat.ne_of_lt (Nat.lt_of_lt_of_le (Exa.lt u5) (Nat.le_of_eq g3.symm))
  have u10 : F_0 Z T4.heap b63 (.int p0) := Fld.keep u8 K4 (own_notin ne9 List.not_mem_nil)
  have u11 : F_1 Z h3 b63 (.int p1) := Fld.ext E3 o2_1
  have u12 : F_1 Z T4.heap b63 (.int p1) := Fld.keep u11 K4 (own_notin ne9 List.not_mem_nil)
  obtain ⟨cq13, kq13, q13a, q13b, q13c⟩ := isOf hZ rfl u7
  obtain ⟨_, _, ⟨T13, L13, k13, n13⟩, -, X13, ⟨Lc13, hQ13, l13, y13, z13⟩, st13⟩ := X4.virtualBack hx (y := M_2) (z := M_2) hown (mvT hZ (tw_18 hw)) (mvT hZ (tw_19 hw)) (notFace_of_selects (args := #[]) (mvT hZ (tw_21 hw))) (mvT hZ (tw_21 hw)) (mvT hZ (tw_20 hw)) (by decide) (backOf (W := 0) (rm4_44 l Z a0 hw [] b63 p0 p1 T4.heap n0 (Nat.le_trans Z0 KK4.1) u7 u10 u12) hZ (tw_22 hw) (tw_2 hw) (by decide) (by decide)) q13a q13c (g := (mkF m 163 #[.val (.int p0), .val (.int p1), .val (.int p2), .val (.int p3), .val (.int p4), .val (.int p2), .val (.int p1), .val (.int 3), .val (.ref b63), .val (.ref b64), .unset] [(.ref b63), (.ref b63)])) rfl (by rw [hml]; rfl) (Steps.refl _) (argsL := [(.ref b63)]) (rest := []) (lenOf pd_2 rfl) rfl (by show 2 * 0 + _ ≤ _; exact Nat.le_of_eq rfl) (hb hby at_163) (fun _ _ => ⟨rfl, rfl, (by decide : 2 + 0 ≤ _), (by decide : 4 + 0 ≤ _)⟩)
  dsimp only [Pt.U, Pt.locs, Pt.cells, Pt.slots] at X13 l13 y13 z13 st13 hQ13
  subst l13 y13 z13
  obtain ⟨rfl, Nq13, e13⟩ := hQ13
  have N13 := Fr.app N4 Nq13
  obtain ⟨fs, hr, hrun, hended, hW, hsame⟩ := X13.leave (v := (some (.int 1))) (fun h => by rw [Bd.returns] at h; cases h)
  refine ⟨_, _, castTop (ef0_IIIII m p0 p1 p2 p3 p4) ?_, hrun, hended, _, _, rfl, ?_, ⟨_, rfl⟩, hW, hsame.mono (by decide) (by decide)⟩
  · show Steps p.tables e below (s₁.setTop (mkF m 0 #[.val (.int p0), .val (.int p1), .val (.int p2), .val (.int p3), .val (.int p4), .unset, .unset, .unset, .unset, .unset, .unset] [])) _
    refine XS.iload X0.here hx rfl (hb hby at_0) rfl ?_
    refine XS.iconst X0.here hx rfl (hb hby at_2) ?_
    show Steps p.tables e below (s₁.setTop (mkF m 3 #[.val (.int p0), .val (.int p1), .val (.int p2), .val (.int p3), .val (.int p4), .unset, .unset, .unset, .unset, .unset, .unset] [(.int 1), (.int p4)])) _
    refine XS.iand X0.here hx rfl (hb hby at_3) rfl ?_
    refine XS.ifYes X0.here hx rfl (pc0 := 4) (pc' := 11) rfl (hb hby at_4) rfl ((if0 _ _).trans (teq (f1 : (p4 &&& (1 : Int32)) = (0 : Int32))).1) (by decide) (by decide) ?_
    refine XS.iloadN X0.here hx rfl (hb hby at_11) rfl ?_
    refine XS.istore X0.here hx rfl (hb hby at_12) rfl (l' := #[.val (.int p0), .val (.int p1), .val (.int p2), .val (.int p3), .val (.int p4), .val (.int p2), .unset, .unset, .unset, .unset, .unset]) rfl ?_
    refine XS.iload X0.here hx rfl (hb hby at_14) rfl ?_
    show Steps p.tables e below (s₁.setTop (mkF m 16 #[.val (.int p0), .val (.int p1), .val (.int p2), .val (.int p3), .val (.int p4), .val (.int p2), .unset, .unset, .unset, .unset, .unset] [(.int p4)])) _
    refine XS.iconst X0.here hx rfl (hb hby at_16) ?_
    show Steps p.tables e below (s₁.setTop (mkF m 17 #[.val (.int p0), .val (.int p1), .val (.int p2), .val (.int p3), .val (.int p4), .val (.int p2), .unset, .unset, .unset, .unset, .unset] [(.int 2), (.int p4)])) _
    refine XS.iand X0.here hx rfl (hb hby at_17) rfl ?_
    refine XS.ifNo X0.here hx rfl (hb hby at_18) rfl ((if0 _ _).trans (feq (f2 : ¬ ((p4 &&& (2 : Int32)) = (0 : Int32)))).1) ?_
    refine XS.iloadN X0.here hx rfl (hb hby at_21) rfl ?_
    refine XS.goto X0.here hx rfl (pc0 := 22) (pc' := 26) rfl (hb hby at_22) (by decide) (by decide) ?_
    refine XS.istore X0.here hx rfl (hb hby at_26) rfl (l' := #[.val (.int p0), .val (.int p1), .val (.int p2), .val (.int p3), .val (.int p4), .val (.int p2), .val (.int p1), .unset, .unset, .unset, .unset]) rfl ?_
    show Steps p.tables e below (s₁.setTop (mkF m 28 #[.val (.int p0), .val (.int p1), .val (.int p2), .val (.int p3), .val (.int p4), .val (.int p2), .val (.int p1), .unset, .unset, .unset, .unset] [])) _
    refine XS.iload X0.here hx rfl (hb hby at_28) rfl ?_
    refine XS.iconst X0.here hx rfl (hb hby at_30) ?_
    show Steps p.tables e below (s₁.setTop (mkF m 31 #[.val (.int p0), .val (.int p1), .val (.int p2), .val (.int p3), .val (.int p4), .val (.int p2), .val (.int p1), .unset, .unset, .unset, .unset] [(.int 2), (.int p4)])) _
    refine XS.iushr X0.here hx rfl (hb hby at_31) rfl ?_
    refine XS.iconst X0.here hx rfl (hb hby at_32) ?_
    show Steps p.tables e below (s₁.setTop (mkF m 33 #[.val (.int p0), .val (.int p1), .val (.int p2), .val (.int p3), .val (.int p4), .val (.int p2), .val (.int p1), .unset, .unset, .unset, .unset] [(.int 3), (.int ((p4.toUInt32 >>> ((2 : Int32) &&& 31).toUInt32).toInt32))])) _
    refine XS.iand X0.here hx rfl (hb hby at_33) rfl ?_
    show Steps p.tables e below (s₁.setTop (mkF m 34 #[.val (.int p0), .val (.int p1), .val (.int p2), .val (.int p3), .val (.int p4), .val (.int p2), .val (.int p1), .unset, .unset, .unset, .unset] [(.int (((p4.toUInt32 >>> ((2 : Int32) &&& 31).toUInt32).toInt32) &&& (3 : Int32)))])) _
    rw [f3]
    refine XS.istore X0.here hx rfl (hb hby at_34) rfl (l' := #[.val (.int p0), .val (.int p1), .val (.int p2), .val (.int p3), .val (.int p4), .val (.int p2), .val (.int p1), .val (.int 3), .unset, .unset, .unset]) rfl ?_
    show Steps p.tables e below (s₁.setTop (mkF m 36 #[.val (.int p0), .val (.int p1), .val (.int p2), .val (.int p3), .val (.int p4), .val (.int p2), .val (.int p1), .val (.int 3), .unset, .unset, .unset] [])) _
    refine st1 _ ?_
    refine XS.dup X1.here hx rfl (hb hby at_39) rfl rfl ?_
    refine XS.iloadN X1.here hx rfl (hb hby at_40) rfl ?_
    refine XS.iloadN X1.here hx rfl (hb hby at_41) rfl ?_
    show Steps p.tables e below (T1.setTop (mkF m 42 #[.val (.int p0), .val (.int p1), .val (.int p2), .val (.int p3), .val (.int p4), .val (.int p2), .val (.int p1), .val (.int 3), .unset, .unset, .unset] [(.int p1), (.int p0), (.ref b63), (.ref b63)])) _
    refine st2.trans ?_
    refine XS.astore X2.here hx rfl (hb hby at_45) rfl rfl (l' := #[.val (.int p0), .val (.int p1), .val (.int p2), .val (.int p3), .val (.int p4), .val (.int p2), .val (.int p1), .val (.int 3), .val (.ref b63), .unset, .unset]) rfl ?_
    show Steps p.tables e below (T2.setTop (mkF m 47 #[.val (.int p0), .val (.int p1), .val (.int p2), .val (.int p3), .val (.int p4), .val (.int p2), .val (.int p1), .val (.int 3), .val (.ref b63), .unset, .unset] [])) _
    refine st3 _ ?_
    refine XS.dup X3.here hx rfl (hb hby at_50) rfl rfl ?_
    refine XS.iload X3.here hx rfl (hb hby at_51) rfl ?_
    refine XS.iload X3.here hx rfl (hb hby at_53) rfl ?_
    show Steps p.tables e below (T3.setTop (mkF m 55 #[.val (.int p0), .val (.int p1), .val (.int p2), .val (.int p3), .val (.int p4), .val (.int p2), .val (.int p1), .val (.int 3), .val (.ref b63), .unset, .unset] [(.int p1), (.int p2), (.ref b64), (.ref b64)])) _
    refine st4.trans ?_
    refine XS.astore X4.here hx rfl (hb hby at_58) rfl rfl (l' := #[.val (.int p0), .val (.int p1), .val (.int p2), .val (.int p3), .val (.int p4), .val (.int p2), .val (.int p1), .val (.int 3), .val (.ref b63), .val (.ref b64), .unset]) rfl ?_
    refine XS.iload X4.here hx rfl (hb hby at_60) rfl ?_
    refine XS.ifYes X4.here hx rfl (pc0 := 62) (pc' := 114) rfl (hb hby at_62) rfl (by decide) (by decide) (by decide) ?_
    refine XS.iload X4.here hx rfl (hb hby at_114) rfl ?_
    show Steps p.tables e below (T4.setTop (mkF m 116 #[.val (.int p0), .val (.int p1), .val (.int p2), .val (.int p3), .val (.int p4), .val (.int p2), .val (.int p1), .val (.int 3), .val (.ref b63), .val (.ref b64), .unset] [(.int 3)])) _
    refine XS.iconst X4.here hx rfl (hb hby at_116) ?_
    refine XS.icmpYes X4.here hx rfl (pc0 := 117) (pc' := 135) rfl (hb hby at_117) rfl (by decide) (by decide) (by decide) ?_
    refine XS.iload X4.here hx rfl (hb hby at_135) rfl ?_
    refine XS.iconst X4.here hx rfl (hb hby at_137) ?_
    refine XS.icmpYes X4.here hx rfl (pc0 := 138) (pc' := 159) rfl (hb hby at_138) rfl (by decide) (by decide) (by decide) ?_
    show Steps p.tables e below (T4.setTop (mkF m 159 #[.val (.int p0), .val (.int p1), .val (.int p2), .val (.int p3), .val (.int p4), .val (.int p2), .val (.int p1), .val (.int 3), .val (.ref b63), .val (.ref b64), .unset] [])) _
    refine XS.aload X4.here hx rfl (hb hby at_159) rfl rfl ?_
    refine XS.aload X4.here hx rfl (hb hby at_161) rfl rfl ?_
    show Steps p.tables e below (T4.setTop (mkF m 163 #[.val (.int p0), .val (.int p1), .val (.int p2), .val (.int p3), .val (.int p4), .val (.int p2), .val (.int p1), .val (.int 3), .val (.ref b63), .val (.ref b64), .unset] [(.ref b63), (.ref b63)])) _
    refine st13.trans ?_
    show Steps p.tables e below (T13.setTop (mkF m 166 #[.val (.int p0), .val (.int p1), .val (.int p2), .val (.int p3), .val (.int p4), .val (.int p2), .val (.int p1), .val (.int 3), .val (.ref b63), .val (.ref b64), .unset] [(.int 1)])) _
    exact retN X13 hx (t := .boolean) Bd.returns (by simp) (hb hby at_166) hr
  · show QT n0 _ T13.heap _
    rw [e13]
    exact ⟨rfl, N13⟩
def Q1_69 (Z : State) (c0_a : Addr) (p0 : Int32) (p3 : Int32) (h0 : Heap) (n0 : Nat) (v : Option Value) (h : Heap) (L : List Loc) : Prop := v = none ∧ Fr n0 L ∧ Keep h0 h [c0_a] ∧ F_0 Z h c0_a (.int p0) ∧ F_1 Z h c0_a (.int p3)
set_option maxRecDepth 65536 in
set_option maxHeartbeats 40000000 in
theorem rm1_68 (l : Launch) (Z : State) (a0 : Array Value) (hw : ∀ d ∈ tables_1, d.before a0 Z = true) (ws : List Jvm.Cond) (c0_a : Addr) (p0 : Int32) (p3 : Int32) (h0 : Heap) (n0 : Nat) (Z0 : n0 ≤ h0.size) (f1 : F_0 Z h0 c0_a (.int 0)) (f2 : E_1 Z h0 c0_a) (f3 : n0 ≤ c0_a) (f4 : F_1 Z h0 c0_a (.int 0)) :
    MetFree l M_1 (head1 (Jvm.Cond.code M_1 prog_3_method_1_code 3 none :: ws) R_2_0_0_24) (fun a U => a = #[(.ref c0_a), (.int p0), (.int p3)] ∧ Z.Warmed39 U.vm ∧ U.heap = h0) (fun _ _ _ _ _ => True) (fun _ U o U' => ∃ v L, o = .returned v ∧ Q1_69 Z c0_a p0 p3 h0 n0 v U'.heap L ∧ FrameEnd U o U' L R_2_0_0_24.cells R_2_0_0_24.slots) := by
  refine MetFree.of_bodySF (plainFor_of_name pn_hexwright_board_Hex) hisR ?_
  intro p e s m args below meth c s₁ Bd hml0 hP hK
  obtain ⟨rfl, hZ, hh⟩ := hP
  have hx := Bd.exec
  have hby := Bd.bytes
  have hml : c.maxLocals = 3 := hml0
  have hown : s.vm.findClass "hexwright/board/Hex" = some m.cls := findClass_of_methodNamed Bd.named
  have hnm := (name_of_methodNamed Bd.named Bd.method).1
  have X0 : Stand p l e R_2_0_0_24 s m #[(.ref c0_a), (.int p0), (.int p3)] below meth c s₁ [] 0 0 := Stand.of_body Bd
  have e0 : s₁.heap = h0 := by rw [← hh, Bd.state]; rfl
  have N0 := Fr.nil n0
  -- pc 1: java/lang/Record.<init>
  obtain ⟨_, _, ⟨T1, L1, k1, n1⟩, -, X1, ⟨Lc1, hQ1, l1, y1, z1⟩, st1⟩ := X0.specialBack hx (y := M_0) rfl hown (mvT hZ (tw_6 hw)) (mvT hZ (tw_7 hw)) (mvT hZ (tw_10 hw)) (by decide) (backOf (W := 0) (rm2_2 l Z a0 hw [] c0_a h0 n0 Z0 ) hZ (tw_10 hw) (tw_9 hw) (by decide) (by decide)) (g := (mkF m 1 #[.val (.ref c0_a), .val (.int p0), .val (.int p3)] [(.ref c0_a)])) rfl (by rw [hml]; rfl) (Steps.refl _) (a := c0_a) (argsL := []) (rest := []) (lenOf pd_0 rfl) rfl (by show 2 * 0 + _ ≤ _; exact Nat.le_of_eq rfl) (hb hby d1_1) (fun _ _ => ⟨rfl, e0, (by decide : 0 + 0 ≤ _), (by decide : 0 + 0 ≤ _)⟩)
  dsimp only [Pt.U, Pt.locs, Pt.cells, Pt.slots] at X1 l1 y1 z1 st1 hQ1
  subst l1 y1 z1
  obtain ⟨rfl, Nq1, e1⟩ := hQ1
  have N1 := Fr.app N0 Nq1
  obtain ⟨T2, h2, X2, e2, W2, st2⟩ := putF X1 hx hZ hown (host := "") (Or.inl (tw_14 hw)) Via.refl e1 f1 f2 (Or.inr ⟨(tw_15 hw), rfl, hnm⟩) (tw_1 hw) (ty := .int) (by decide) rfl rfl (g := (mkF m 6 #[.val (.ref c0_a), .val (.int p0), .val (.int p3)] [(.int p0), (.ref c0_a)])) rfl rfl (hb hby d1_6)
  have Fw2 : F_0 Z h2 c0_a (.int p0) := Fld.same W2 f1
  have KK2 : Keep h0 h2 [c0_a] := (Keep.refl h0 [c0_a]).wr W2 (Or.inl (List.mem_of_getElem? (i := 0) rfl))
  have N2 := Fr.snoc X2 N1 f3
  have u3 : F_1 Z h2 c0_a (.int 0) := Fld.other W2 f4 (Or.inr (slot_ne (a0 := a0) (Or.inr (tw_17 hw)) (Or.inr (tw_15 hw)) (by decide) (t := .int) (t' := .int) (by decide) (by decide)))
  have u4 : E_1 Z h2 c0_a := Exa.wr W2 f2
  obtain ⟨T5, h5, X5, e5, W5, st5⟩ := putF X2 hx hZ hown (host := "") (Or.inl (tw_16 hw)) Via.refl e2 u3 u4 (Or.inr ⟨(tw_17 hw), rfl, hnm⟩) (tw_1 hw) (ty := .int) (by decide) rfl rfl (g := (mkF m 11 #[.val (.ref c0_a), .val (.int p0), .val (.int p3)] [(.int p3), (.ref c0_a)])) rfl rfl (hb hby d1_11)
  have Fw5 : F_1 Z h5 c0_a (.int p3) := Fld.same W5 u3
  have KK5 : Keep h0 h5 [c0_a] := KK2.wr W5 (Or.inl (List.mem_of_getElem? (i := 0) rfl))
  have N5 := Fr.snoc X5 N2 f3
  have u6 : F_0 Z h5 c0_a (.int p0) := Fld.other W5 Fw2 (Or.inr (slot_ne (a0 := a0) (Or.inr (tw_15 hw)) (Or.inr (tw_17 hw)) (by decide) (t := .int) (t' := .int) (by decide) (by decide)))
  obtain ⟨fs, hr, hrun, hended, hW, hsame⟩ := X5.leave (v := none) (fun _ => rfl)
  refine ⟨_, _, castTop (ef1_RII m c0_a p0 p3) ?_, hrun, hended, _, _, rfl, ?_, ⟨_, rfl⟩, hW, hsame.mono (by decide) (by decide)⟩
  · show Steps p.tables e below (s₁.setTop (mkF m 0 #[.val (.ref c0_a), .val (.int p0), .val (.int p3)] [])) _
    refine XS.aloadN X0.here hx rfl (hb hby d1_0) rfl rfl ?_
    show Steps p.tables e below (s₁.setTop (mkF m 1 #[.val (.ref c0_a), .val (.int p0), .val (.int p3)] [(.ref c0_a)])) _
    refine st1.trans ?_
    refine XS.aloadN X1.here hx rfl (hb hby d1_4) rfl rfl ?_
    refine XS.iloadN X1.here hx rfl (hb hby d1_5) rfl ?_
    show Steps p.tables e below (T1.setTop (mkF m 6 #[.val (.ref c0_a), .val (.int p0), .val (.int p3)] [(.int p0), (.ref c0_a)])) _
    refine st2 _ ?_
    refine XS.aloadN X2.here hx rfl (hb hby d1_9) rfl rfl ?_
    refine XS.iloadN X2.here hx rfl (hb hby d1_10) rfl ?_
    show Steps p.tables e below (T2.setTop (mkF m 11 #[.val (.ref c0_a), .val (.int p0), .val (.int p3)] [(.int p3), (.ref c0_a)])) _
    refine st5 _ ?_
    show Steps p.tables e below (T5.setTop (mkF m 14 #[.val (.ref c0_a), .val (.int p0), .val (.int p3)] [])) _
    exact X5.returnOut hx Bd.returns (hb hby d1_14) hr
  · show Q1_69 Z c0_a p0 p3 h0 n0 _ T5.heap _
    rw [e5]
    exact ⟨rfl, N5, KK5, u6, Fw5⟩
set_option maxRecDepth 65536 in
set_option maxHeartbeats 40000000 in
theorem rm4_70 (l : Launch) (Z : State) (a0 : Array Value) (hw : ∀ d ∈ tables_1, d.before a0 Z = true) (ws : List Jvm.Cond) (c0_a : Addr) (c1_a : Addr) (p0 : Int32) (p3 : Int32) (p1 : Int32) (h0 : Heap) (n0 : Nat) (Z0 : n0 ≤ h0.size) (f1 : E_1 Z h0 c1_a) (f2 : F_0 Z h0 c1_a (.int p0)) (f3 : F_0 Z h0 c0_a (.int p0)) (f4 : F_1 Z h0 c1_a (.int p3)) (f5 : F_1 Z h0 c0_a (.int p1)) (f6 : p3 = p1) :
    MetFree l M_2 (head1 (Jvm.Cond.code M_2 prog_3_method_4_code 3 (some .boolean) :: ws) R_0_0_0_0) (fun a U => a = #[(.ref c0_a), (.ref c1_a)] ∧ Z.Warmed39 U.vm ∧ U.heap = h0) (fun _ _ _ _ _ => True) (fun _ U o U' => ∃ v L, o = .returned v ∧ QP (some (.int 1)) h0 n0 v U'.heap L ∧ FrameEnd U o U' L R_0_0_0_0.cells R_0_0_0_0.slots) := by
  refine MetFree.of_bodySF (plainFor_of_name pn_hexwright_board_Hex) hisR ?_
  intro p e s m args below meth c s₁ Bd hml0 hP hK
  obtain ⟨rfl, hZ, hh⟩ := hP
  have hx := Bd.exec
  have hby := Bd.bytes
  have hml : c.maxLocals = 3 := hml0
  have hown : s.vm.findClass "hexwright/board/Hex" = some m.cls := findClass_of_methodNamed Bd.named
  have hnm := (name_of_methodNamed Bd.named Bd.method).1
  have X0 : Stand p l e R_0_0_0_0 s m #[(.ref c0_a), (.ref c1_a)] below meth c s₁ [] 0 0 := Stand.of_body Bd
  have e0 : s₁.heap = h0 := by rw [← hh, Bd.state]; rfl
  have N0 := Fr.nil n0
  obtain ⟨T1, X1, e1, st1⟩ := instY X0 hx hZ hown (tw_23 hw) e0 (Ins.self f1) (g := (mkF m 1 #[.val (.ref c0_a), .val (.ref c1_a), .unset] [(.ref c1_a)])) rfl rfl (hb hby d4_1)
  obtain ⟨T2, X2, e2, st2⟩ := castY X1 hx hZ hown (tw_23 hw) e1 (Ins.self f1) (g := (mkF m 8 #[.val (.ref c0_a), .val (.ref c1_a), .unset] [(.ref c1_a)])) rfl rfl (hb hby d4_8)
  obtain ⟨T3, X3, e3, st3⟩ := getF X2 hx hZ hown (host := "") (Or.inl (tw_14 hw)) Via.refl e2 f2 (g := (mkF m 13 #[.val (.ref c0_a), .val (.ref c1_a), .val (.ref c1_a)] [(.ref c1_a)])) rfl rfl (hb hby d4_13)
  obtain ⟨T4, X4, e4, st4⟩ := getF X3 hx hZ hown (host := "") (Or.inl (tw_14 hw)) Via.refl e3 f3 (g := (mkF m 17 #[.val (.ref c0_a), .val (.ref c1_a), .val (.ref c1_a)] [(.ref c0_a), (.int p0)])) rfl rfl (hb hby d4_17)
  obtain ⟨T5, X5, e5, st5⟩ := getF X4 hx hZ hown (host := "") (Or.inl (tw_16 hw)) Via.refl e4 f4 (g := (mkF m 24 #[.val (.ref c0_a), .val (.ref c1_a), .val (.ref c1_a)] [(.ref c1_a)])) rfl rfl (hb hby d4_24)
  obtain ⟨T6, X6, e6, st6⟩ := getF X5 hx hZ hown (host := "") (Or.inl (tw_16 hw)) Via.refl e5 f5 (g := (mkF m 28 #[.val (.ref c0_a), .val (.ref c1_a), .val (.ref c1_a)] [(.ref c0_a), (.int p3)])) rfl rfl (hb hby d4_28)
  obtain ⟨fs, hr, hrun, hended, hW, hsame⟩ := X6.leave (v := (some (.int 1))) (fun h => by rw [Bd.returns] at h; cases h)
  refine ⟨_, _, castTop (ef4_RR m c0_a c1_a) ?_, hrun, hended, _, _, rfl, ?_, ⟨_, rfl⟩, hW, hsame.mono (by decide) (by decide)⟩
  · show Steps p.tables e below (s₁.setTop (mkF m 0 #[.val (.ref c0_a), .val (.ref c1_a), .unset] [])) _
    refine XS.aloadN X0.here hx rfl (hb hby d4_0) rfl rfl ?_
    show Steps p.tables e below (s₁.setTop (mkF m 1 #[.val (.ref c0_a), .val (.ref c1_a), .unset] [(.ref c1_a)])) _
    refine st1 _ ?_
    refine XS.ifNo X1.here hx rfl (hb hby d4_4) rfl (by decide) ?_
    refine XS.aloadN X1.here hx rfl (hb hby d4_7) rfl rfl ?_
    show Steps p.tables e below (T1.setTop (mkF m 8 #[.val (.ref c0_a), .val (.ref c1_a), .unset] [(.ref c1_a)])) _
    refine st2 _ ?_
    refine XS.astoreN X2.here hx rfl (hb hby d4_11) rfl rfl (l' := #[.val (.ref c0_a), .val (.ref c1_a), .val (.ref c1_a)]) rfl ?_
    refine XS.aloadN X2.here hx rfl (hb hby d4_12) rfl rfl ?_
    show Steps p.tables e below (T2.setTop (mkF m 13 #[.val (.ref c0_a), .val (.ref c1_a), .val (.ref c1_a)] [(.ref c1_a)])) _
    refine st3 _ ?_
    refine XS.aloadN X3.here hx rfl (hb hby d4_16) rfl rfl ?_
    show Steps p.tables e below (T3.setTop (mkF m 17 #[.val (.ref c0_a), .val (.ref c1_a), .val (.ref c1_a)] [(.ref c0_a), (.int p0)])) _
    refine st4 _ ?_
    refine XS.icmpNo X4.here hx rfl (hb hby d4_20) rfl (teq (rfl : p0 = p0)).2 ?_
    refine XS.aloadN X4.here hx rfl (hb hby d4_23) rfl rfl ?_
    show Steps p.tables e below (T4.setTop (mkF m 24 #[.val (.ref c0_a), .val (.ref c1_a), .val (.ref c1_a)] [(.ref c1_a)])) _
    refine st5 _ ?_
    refine XS.aloadN X5.here hx rfl (hb hby d4_27) rfl rfl ?_
    show Steps p.tables e below (T5.setTop (mkF m 28 #[.val (.ref c0_a), .val (.ref c1_a), .val (.ref c1_a)] [(.ref c0_a), (.int p3)])) _
    refine st6 _ ?_
    refine XS.icmpNo X6.here hx rfl (hb hby d4_31) rfl (teq (f6 : p3 = p1)).2 ?_
    refine XS.iconst X6.here hx rfl (hb hby d4_34) ?_
    refine XS.goto X6.here hx rfl (pc0 := 35) (pc' := 39) rfl (hb hby d4_35) (by decide) (by decide) ?_
    show Steps p.tables e below (T6.setTop (mkF m 39 #[.val (.ref c0_a), .val (.ref c1_a), .val (.ref c1_a)] [(.int 1)])) _
    exact retN X6 hx (t := .boolean) Bd.returns (by simp) (hb hby d4_39) hr
  · show QP (some (.int 1)) h0 n0 _ T6.heap _
    rw [e6]
    exact ⟨rfl, N0, rfl⟩
set_option maxRecDepth 65536 in
set_option maxHeartbeats 40000000 in
theorem rm4_71 (l : Launch) (Z : State) (a0 : Array Value) (hw : ∀ d ∈ tables_1, d.before a0 Z = true) (ws : List Jvm.Cond) (c0_a : Addr) (c1_a : Addr) (p0 : Int32) (p1 : Int32) (p3 : Int32) (h0 : Heap) (n0 : Nat) (Z0 : n0 ≤ h0.size) (f1 : E_1 Z h0 c1_a) (f2 : F_0 Z h0 c1_a (.int p0)) (f3 : F_0 Z h0 c0_a (.int p0)) (f4 : F_1 Z h0 c1_a (.int p1)) (f5 : F_1 Z h0 c0_a (.int p3)) (f6 : p1 = p3) :
    MetFree l M_2 (head1 (Jvm.Cond.code M_2 prog_3_method_4_code 3 (some .boolean) :: ws) R_0_0_0_0) (fun a U => a = #[(.ref c0_a), (.ref c1_a)] ∧ Z.Warmed39 U.vm ∧ U.heap = h0) (fun _ _ _ _ _ => True) (fun _ U o U' => ∃ v L, o = .returned v ∧ QP (some (.int 1)) h0 n0 v U'.heap L ∧ FrameEnd U o U' L R_0_0_0_0.cells R_0_0_0_0.slots) := by
  refine MetFree.of_bodySF (plainFor_of_name pn_hexwright_board_Hex) hisR ?_
  intro p e s m args below meth c s₁ Bd hml0 hP hK
  obtain ⟨rfl, hZ, hh⟩ := hP
  have hx := Bd.exec
  have hby := Bd.bytes
  have hml : c.maxLocals = 3 := hml0
  have hown : s.vm.findClass "hexwright/board/Hex" = some m.cls := findClass_of_methodNamed Bd.named
  have hnm := (name_of_methodNamed Bd.named Bd.method).1
  have X0 : Stand p l e R_0_0_0_0 s m #[(.ref c0_a), (.ref c1_a)] below meth c s₁ [] 0 0 := Stand.of_body Bd
  have e0 : s₁.heap = h0 := by rw [← hh, Bd.state]; rfl
  have N0 := Fr.nil n0
  obtain ⟨T1, X1, e1, st1⟩ := instY X0 hx hZ hown (tw_23 hw) e0 (Ins.self f1) (g := (mkF m 1 #[.val (.ref c0_a), .val (.ref c1_a), .unset] [(.ref c1_a)])) rfl rfl (hb hby d4_1)
  obtain ⟨T2, X2, e2, st2⟩ := castY X1 hx hZ hown (tw_23 hw) e1 (Ins.self f1) (g := (mkF m 8 #[.val (.ref c0_a), .val (.ref c1_a), .unset] [(.ref c1_a)])) rfl rfl (hb hby d4_8)
  obtain ⟨T3, X3, e3, st3⟩ := getF X2 hx hZ hown (host := "") (Or.inl (tw_14 hw)) Via.refl e2 f2 (g := (mkF m 13 #[.val (.ref c0_a), .val (.ref c1_a), .val (.ref c1_a)] [(.ref c1_a)])) rfl rfl (hb hby d4_13)
  obtain ⟨T4, X4, e4, st4⟩ := getF X3 hx hZ hown (host := "") (Or.inl (tw_14 hw)) Via.refl e3 f3 (g := (mkF m 17 #[.val (.ref c0_a), .val (.ref c1_a), .val (.ref c1_a)] [(.ref c0_a), (.int p0)])) rfl rfl (hb hby d4_17)
  obtain ⟨T5, X5, e5, st5⟩ := getF X4 hx hZ hown (host := "") (Or.inl (tw_16 hw)) Via.refl e4 f4 (g := (mkF m 24 #[.val (.ref c0_a), .val (.ref c1_a), .val (.ref c1_a)] [(.ref c1_a)])) rfl rfl (hb hby d4_24)
  obtain ⟨T6, X6, e6, st6⟩ := getF X5 hx hZ hown (host := "") (Or.inl (tw_16 hw)) Via.refl e5 f5 (g := (mkF m 28 #[.val (.ref c0_a), .val (.ref c1_a), .val (.ref c1_a)] [(.ref c0_a), (.int p1)])) rfl rfl (hb hby d4_28)
  obtain ⟨fs, hr, hrun, hended, hW, hsame⟩ := X6.leave (v := (some (.int 1))) (fun h => by rw [Bd.returns] at h; cases h)
  refine ⟨_, _, castTop (ef4_RR m c0_a c1_a) ?_, hrun, hended, _, _, rfl, ?_, ⟨_, rfl⟩, hW, hsame.mono (by decide) (by decide)⟩
  · show Steps p.tables e below (s₁.setTop (mkF m 0 #[.val (.ref c0_a), .val (.ref c1_a), .unset] [])) _
    refine XS.aloadN X0.here hx rfl (hb hby d4_0) rfl rfl ?_
    show Steps p.tables e below (s₁.setTop (mkF m 1 #[.val (.ref c0_a), .val (.ref c1_a), .unset] [(.ref c1_a)])) _
    refine st1 _ ?_
    refine XS.ifNo X1.here hx rfl (hb hby d4_4) rfl (by decide) ?_
    refine XS.aloadN X1.here hx rfl (hb hby d4_7) rfl rfl ?_
    show Steps p.tables e below (T1.setTop (mkF m 8 #[.val (.ref c0_a), .val (.ref c1_a), .unset] [(.ref c1_a)])) _
    refine st2 _ ?_
    refine XS.astoreN X2.here hx rfl (hb hby d4_11) rfl rfl (l' := #[.val (.ref c0_a), .val (.ref c1_a), .val (.ref c1_a)]) rfl ?_
    refine XS.aloadN X2.here hx rfl (hb hby d4_12) rfl rfl ?_
    show Steps p.tables e below (T2.setTop (mkF m 13 #[.val (.ref c0_a), .val (.ref c1_a), .val (.ref c1_a)] [(.ref c1_a)])) _
    refine st3 _ ?_
    refine XS.aloadN X3.here hx rfl (hb hby d4_16) rfl rfl ?_
    show Steps p.tables e below (T3.setTop (mkF m 17 #[.val (.ref c0_a), .val (.ref c1_a), .val (.ref c1_a)] [(.ref c0_a), (.int p0)])) _
    refine st4 _ ?_
    refine XS.icmpNo X4.here hx rfl (hb hby d4_20) rfl (teq (rfl : p0 = p0)).2 ?_
    refine XS.aloadN X4.here hx rfl (hb hby d4_23) rfl rfl ?_
    show Steps p.tables e below (T4.setTop (mkF m 24 #[.val (.ref c0_a), .val (.ref c1_a), .val (.ref c1_a)] [(.ref c1_a)])) _
    refine st5 _ ?_
    refine XS.aloadN X5.here hx rfl (hb hby d4_27) rfl rfl ?_
    show Steps p.tables e below (T5.setTop (mkF m 28 #[.val (.ref c0_a), .val (.ref c1_a), .val (.ref c1_a)] [(.ref c0_a), (.int p1)])) _
    refine st6 _ ?_
    refine XS.icmpNo X6.here hx rfl (hb hby d4_31) rfl (teq (f6 : p1 = p3)).2 ?_
    refine XS.iconst X6.here hx rfl (hb hby d4_34) ?_
    refine XS.goto X6.here hx rfl (pc0 := 35) (pc' := 39) rfl (hb hby d4_35) (by decide) (by decide) ?_
    show Steps p.tables e below (T6.setTop (mkF m 39 #[.val (.ref c0_a), .val (.ref c1_a), .val (.ref c1_a)] [(.int 1)])) _
    exact retN X6 hx (t := .boolean) Bd.returns (by simp) (hb hby d4_39) hr
  · show QP (some (.int 1)) h0 n0 _ T6.heap _
    rw [e6]
    exact ⟨rfl, N0, rfl⟩
set_option maxRecDepth 65536 in
set_option maxHeartbeats 40000000 in
theorem rm0_72 (l : Launch) (Z : State) (a0 : Array Value) (hw : ∀ d ∈ tables_1, d.before a0 Z = true) (ws : List Jvm.Cond) (p0 : Int32) (p1 : Int32) (p2 : Int32) (p3 : Int32) (p4 : Int32) (h0 : Heap) (n0 : Nat) (Z0 : n0 ≤ h0.size) (f1 : ¬ ((p4 &&& (1 : Int32)) = (0 : Int32))) (f2 : (p4 &&& (2 : Int32)) = (0 : Int32)) (f3 : (((p4.toUInt32 >>> ((2 : Int32) &&& 31).toUInt32).toInt32) &&& (3 : Int32)) = (0 : Int32)) (f4 : p3 = p1) (f5 : p1 = p3) :
    MetFree l x (head1 (Jvm.Cond.code x code maxLocals ret :: ws) room_1) (fun a U => a = #[(.int p0), (.int p1), (.int p2), (.int p3), (.int p4)] ∧ Z.Warmed39 U.vm ∧ U.heap = h0) (fun _ _ _ _ _ => True) (fun _ U o U' => ∃ v L, o = .returned v ∧ QT n0 v U'.heap L ∧ FrameEnd U o U' L room_1.cells room_1.slots) := by
  refine MetFree.of_bodySF (plainFor_of_name pn_hexwright_board_HexEqualsPinLaw) hisR ?_
  intro p e s m args below meth c s₁ Bd hml0 hP hK
  obtain ⟨rfl, hZ, hh⟩ := hP
  have hx := Bd.exec
  have hby := Bd.bytes
  have hml : c.maxLocals = 11 := hml0
  have hown : s.vm.findClass "hexwright/board/HexEqualsPinLaw" = some m.cls := findClass_of_methodNamed Bd.named
  have hnm := (name_of_methodNamed Bd.named Bd.method).1
  have X0 : Stand p l e room_1 s m #[(.int p0), (.int p1), (.int p2), (.int p3), (.int p4)] below meth c s₁ [] 0 0 := Stand.of_body Bd
  have e0 : s₁.heap = h0 := by rw [← hh, Bd.state]; rfl
  have N0 := Fr.nil n0
  obtain ⟨T1, h1, X1, e1, E1, A1, D1, -, st1⟩ := newO X0 hx hZ hown (tw_0 hw) (tw_1 hw) (tw_2 hw) e0 (g := (mkF m 36 #[.val (.int p0), .val (.int p1), .val (.int p2), .val (.int p3), .val (.int p4), .val (.int p0), .val (.int p3), .val (.int 0), .unset, .unset, .unset] [])) rfl (hb hby at_36) (by decide) (by decide)
  obtain ⟨b66, g1⟩ : ∃ z, z = h0.size := ⟨_, rfl⟩
  rw [← g1] at A1 D1 st1
  have sz_b66 : h0.size ≤ b66 := Nat.le_trans (Nat.le_refl _) (Nat.le_of_eq g1.symm)
  have g_b66 : n0 ≤ b66 := Nat.le_trans Z0 sz_b66
  have KK1 : Keep h0 h1 [] := (Keep.refl h0 []).ext E1
  have F1_15 : F_0 Z h1 b66 (.int 0) := D1 (Or.inr (tw_15 hw)) (ty := .int) (by decide)
  have F1_17 : F_1 Z h1 b66 (.int 0) := D1 (Or.inr (tw_17 hw)) (ty := .int) (by decide)
  -- pc 42: hexwright/board/Hex.<init>
  obtain ⟨_, _, ⟨T2, L2, k2, n2⟩, -, X2, ⟨Lc2, hQ2, l2, y2, z2⟩, st2⟩ := X1.specialBack hx (y := M_1) rfl hown (mvT hZ (tw_3 hw)) (mvT hZ (tw_4 hw)) (mvT hZ (tw_5 hw)) (by decide) (backOf (W := 1) (rm1_3 l Z a0 hw [] b66 p0 p1 h1 n0 (Nat.le_trans Z0 KK1.1) F1_15 A1 g_b66 F1_17) hZ (tw_5 hw) (tw_2 hw) (by decide) (by decide)) (g := (mkF m 42 #[.val (.int p0), .val (.int p1), .val (.int p2), .val (.int p3), .val (.int p4), .val (.int p0), .val (.int p3), .val (.int 0), .unset, .unset, .unset] [(.int p1), (.int p0), (.ref b66), (.ref b66)])) rfl (by rw [hml]; rfl) (Steps.refl _) (a := b66) (argsL := [(.int p0), (.int p1)]) (rest := [(.ref b66)]) (lenOf pd_1 rfl) rfl (by show 2 * 0 + _ ≤ _; exact Nat.le_of_eq rfl) (hb hby at_42) (fun _ _ => ⟨rfl, e1, (by decide : 1 + 0 ≤ _), (by decide : 2 + 0 ≤ _)⟩)
  dsimp only [Pt.U, Pt.locs, Pt.cells, Pt.slots] at X2 l2 y2 z2 st2 hQ2
  subst l2 y2 z2
  obtain ⟨rfl, Nq2, K2, o2_0, o2_1⟩ := hQ2
  have N2 := Fr.app N0 Nq2
  have KK2 : Keep h0 T2.heap [] := KK1.trans K2 (fun x hx => (List.mem_cons.mp hx).elim (fun q => q ▸ (Or.inr sz_b66)) (fun hx => nomatch hx))
  obtain ⟨T3, h3, X3, e3, E3, A3, D3, -, st3⟩ := newO X2 hx hZ hown (tw_0 hw) (tw_1 hw) (tw_2 hw) rfl (g := (mkF m 47 #[.val (.int p0), .val (.int p1), .val (.int p2), .val (.int p3), .val (.int p4), .val (.int p0), .val (.int p3), .val (.int 0), .val (.ref b66), .unset, .unset] [])) rfl (hb hby at_47) (by decide) (by decide)
  obtain ⟨b67, g3⟩ : ∃ z, z = T2.heap.size := ⟨_, rfl⟩
  rw [← g3] at A3 D3 st3
  have sz_b67 : h0.size ≤ b67 := Nat.le_trans KK2.1 (Nat.le_of_eq g3.symm)
  have g_b67 : n0 ≤ b67 := Nat.le_trans Z0 sz_b67
  have KK3 : Keep h0 h3 [] := KK2.ext E3
  have F3_15 : F_0 Z h3 b67 (.int 0) := D3 (Or.inr (tw_15 hw)) (ty := .int) (by decide)
  have F3_17 : F_1 Z h3 b67 (.int 0) := D3 (Or.inr (tw_17 hw)) (ty := .int) (by decide)
  -- pc 55: hexwright/board/Hex.<init>
  obtain ⟨_, _, ⟨T4, L4, k4, n4⟩, -, X4, ⟨Lc4, hQ4, l4, y4, z4⟩, st4⟩ := X3.specialBack hx (y := M_1) rfl hown (mvT hZ (tw_3 hw)) (mvT hZ (tw_4 hw)) (mvT hZ (tw_5 hw)) (by decide) (backOf (W := 1) (rm1_68 l Z a0 hw [] b67 p0 p3 h3 n0 (Nat.le_trans Z0 KK3.1) F3_15 A3 g_b67 F3_17) hZ (tw_5 hw) (tw_2 hw) (by decide) (by decide)) (g := (mkF m 55 #[.val (.int p0), .val (.int p1), .val (.int p2), .val (.int p3), .val (.int p4), .val (.int p0), .val (.int p3), .val (.int 0), .val (.ref b66), .unset, .unset] [(.int p3), (.int p0), (.ref b67), (.ref b67)])) rfl (by rw [hml]; rfl) (Steps.refl _) (a := b67) (argsL := [(.int p0), (.int p3)]) (rest := [(.ref b67)]) (lenOf pd_1 rfl) rfl (by show 2 * 0 + _ ≤ _; exact Nat.le_of_eq rfl) (hb hby at_55) (fun _ _ => ⟨rfl, e3, (by decide : 2 + 0 ≤ _), (by decide : 4 + 0 ≤ _)⟩)
  dsimp only [Pt.U, Pt.locs, Pt.cells, Pt.slots] at X4 l4 y4 z4 st4 hQ4
  subst l4 y4 z4
  obtain ⟨rfl, Nq4, K4, o4_0, o4_1⟩ := hQ4
  have N4 := Fr.app N2 Nq4
  have KK4 : Keep h0 T4.heap [] := KK3.trans K4 (fun x hx => (List.mem_cons.mp hx).elim (fun q => q ▸ (Or.inr sz_b67)) (fun hx => nomatch hx))
  -- pc 88: hexwright/board/Hex.equals
  have u5 : E_1 Z T4.heap b67 := Exa.keep A3 K4
  have u6 : F_0 Z h3 b66 (.int p0) := Fld.ext E3 o2_0
  have u7 : E_1 Z T2.heap b66 := Exa.keep A1 K2
  have ne8 : b66 ≠ b67 := Nat.ne_of_lt (Nat.lt_of_lt_of_le (Exa.lt u7) (Nat.le_of_eq g3.symm))
  have u9 : F_0 Z T4.heap b66 (.int p0) := Fld.keep u6 K4 (own_notin ne8 List.not_mem_nil)
  have u10 : F_1 Z h3 b66 (.int p1) := Fld.ext E3 o2_1
  have u11 : F_1 Z T4.heap b66 (.int p1) := Fld.keep u10 K4 (own_notin ne8 List.not_mem_nil)
  have u13 : E_1 Z h3 b66 := Exa.ext E3 u7
  have u14 : E_1 Z T4.heap b66 := Exa.keep u13 K4
  obtain ⟨cq12, kq12, q12a, q12b, q12c⟩ := isOf hZ rfl u14
  obtain ⟨_, _, ⟨T12, L12, k12, n12⟩, -, X12, ⟨Lc12, hQ12, l12, y12, z12⟩, st12⟩ := X4.virtualBack hx (y := M_2) (z := M_2) hown (mvT hZ (tw_18 hw)) (mvT hZ (tw_19 hw)) (notFace_of_selects (args := #[]) (mvT hZ (tw_21 hw))) (mvT hZ (tw_21 hw)) (mvT hZ (tw_20 hw)) (by decide) (backOf (W := 0) (rm4_70 l Z a0 hw [] b66 b67 p0 p3 p1 T4.heap n0 (Nat.le_trans Z0 KK4.1) u5 o4_0 u9 o4_1 u11 f4) hZ (tw_22 hw) (tw_2 hw) (by decide) (by decide)) q12a q12c (g := (mkF m 88 #[.val (.int p0), .val (.int p1), .val (.int p2), .val (.int p3), .val (.int p4), .val (.int p0), .val (.int p3), .val (.int 0), .val (.ref b66), .val (.ref b67), .val (.int 1)] [(.ref b67), (.ref b66)])) rfl (by rw [hml]; rfl) (Steps.refl _) (argsL := [(.ref b67)]) (rest := []) (lenOf pd_2 rfl) rfl (by show 2 * 0 + _ ≤ _; exact Nat.le_of_eq rfl) (hb hby at_88) (fun _ _ => ⟨rfl, rfl, (by decide : 2 + 0 ≤ _), (by decide : 4 + 0 ≤ _)⟩)
  dsimp only [Pt.U, Pt.locs, Pt.cells, Pt.slots] at X12 l12 y12 z12 st12 hQ12
  subst l12 y12 z12
  obtain ⟨rfl, Nq12, e12⟩ := hQ12
  have N12 := Fr.app N4 Nq12
  -- pc 100: hexwright/board/Hex.equals
  obtain ⟨cq15, kq15, q15a, q15b, q15c⟩ := isOf hZ e12 u5
  obtain ⟨_, _, ⟨T15, L15, k15, n15⟩, -, X15, ⟨Lc15, hQ15, l15, y15, z15⟩, st15⟩ := X12.virtualBack hx (y := M_2) (z := M_2) hown (mvT hZ (tw_18 hw)) (mvT hZ (tw_19 hw)) (notFace_of_selects (args := #[]) (mvT hZ (tw_21 hw))) (mvT hZ (tw_21 hw)) (mvT hZ (tw_20 hw)) (by decide) (backOf (W := 0) (rm4_71 l Z a0 hw [] b67 b66 p0 p1 p3 T4.heap n0 (Nat.le_trans Z0 KK4.1) u14 u9 o4_0 u11 o4_1 f5) hZ (tw_22 hw) (tw_2 hw) (by decide) (by decide)) q15a q15c (g := (mkF m 100 #[.val (.int p0), .val (.int p1), .val (.int p2), .val (.int p3), .val (.int p4), .val (.int p0), .val (.int p3), .val (.int 0), .val (.ref b66), .val (.ref b67), .val (.int 1)] [(.ref b66), (.ref b67)])) rfl (by rw [hml]; rfl) (Steps.refl _) (argsL := [(.ref b66)]) (rest := []) (lenOf pd_2 rfl) rfl (by show 2 * 0 + _ ≤ _; exact Nat.le_of_eq rfl) (hb hby at_100) (fun _ _ => ⟨rfl, e12, (by decide : 2 + 0 ≤ _), (by decide : 4 + 0 ≤ _)⟩)
  dsimp only [Pt.U, Pt.locs, Pt.cells, Pt.slots] at X15 l15 y15 z15 st15 hQ15
  subst l15 y15 z15
  obtain ⟨rfl, Nq15, e15⟩ := hQ15
  have N15 := Fr.app N12 Nq15
  obtain ⟨fs, hr, hrun, hended, hW, hsame⟩ := X15.leave (v := (some (.int 1))) (fun h => by rw [Bd.returns] at h; cases h)
  refine ⟨_, _, castTop (ef0_IIIII m p0 p1 p2 p3 p4) ?_, hrun, hended, _, _, rfl, ?_, ⟨_, rfl⟩, hW, hsame.mono (by decide) (by decide)⟩
  · show Steps p.tables e below (s₁.setTop (mkF m 0 #[.val (.int p0), .val (.int p1), .val (.int p2), .val (.int p3), .val (.int p4), .unset, .unset, .unset, .unset, .unset, .unset] [])) _
    refine XS.iload X0.here hx rfl (hb hby at_0) rfl ?_
    refine XS.iconst X0.here hx rfl (hb hby at_2) ?_
    show Steps p.tables e below (s₁.setTop (mkF m 3 #[.val (.int p0), .val (.int p1), .val (.int p2), .val (.int p3), .val (.int p4), .unset, .unset, .unset, .unset, .unset, .unset] [(.int 1), (.int p4)])) _
    refine XS.iand X0.here hx rfl (hb hby at_3) rfl ?_
    refine XS.ifNo X0.here hx rfl (hb hby at_4) rfl ((if0 _ _).trans (feq (f1 : ¬ ((p4 &&& (1 : Int32)) = (0 : Int32)))).1) ?_
    refine XS.iloadN X0.here hx rfl (hb hby at_7) rfl ?_
    refine XS.goto X0.here hx rfl (pc0 := 8) (pc' := 12) rfl (hb hby at_8) (by decide) (by decide) ?_
    refine XS.istore X0.here hx rfl (hb hby at_12) rfl (l' := #[.val (.int p0), .val (.int p1), .val (.int p2), .val (.int p3), .val (.int p4), .val (.int p0), .unset, .unset, .unset, .unset, .unset]) rfl ?_
    show Steps p.tables e below (s₁.setTop (mkF m 14 #[.val (.int p0), .val (.int p1), .val (.int p2), .val (.int p3), .val (.int p4), .val (.int p0), .unset, .unset, .unset, .unset, .unset] [])) _
    refine XS.iload X0.here hx rfl (hb hby at_14) rfl ?_
    refine XS.iconst X0.here hx rfl (hb hby at_16) ?_
    show Steps p.tables e below (s₁.setTop (mkF m 17 #[.val (.int p0), .val (.int p1), .val (.int p2), .val (.int p3), .val (.int p4), .val (.int p0), .unset, .unset, .unset, .unset, .unset] [(.int 2), (.int p4)])) _
    refine XS.iand X0.here hx rfl (hb hby at_17) rfl ?_
    refine XS.ifYes X0.here hx rfl (pc0 := 18) (pc' := 25) rfl (hb hby at_18) rfl ((if0 _ _).trans (teq (f2 : (p4 &&& (2 : Int32)) = (0 : Int32))).1) (by decide) (by decide) ?_
    refine XS.iloadN X0.here hx rfl (hb hby at_25) rfl ?_
    refine XS.istore X0.here hx rfl (hb hby at_26) rfl (l' := #[.val (.int p0), .val (.int p1), .val (.int p2), .val (.int p3), .val (.int p4), .val (.int p0), .val (.int p3), .unset, .unset, .unset, .unset]) rfl ?_
    refine XS.iload X0.here hx rfl (hb hby at_28) rfl ?_
    show Steps p.tables e below (s₁.setTop (mkF m 30 #[.val (.int p0), .val (.int p1), .val (.int p2), .val (.int p3), .val (.int p4), .val (.int p0), .val (.int p3), .unset, .unset, .unset, .unset] [(.int p4)])) _
    refine XS.iconst X0.here hx rfl (hb hby at_30) ?_
    show Steps p.tables e below (s₁.setTop (mkF m 31 #[.val (.int p0), .val (.int p1), .val (.int p2), .val (.int p3), .val (.int p4), .val (.int p0), .val (.int p3), .unset, .unset, .unset, .unset] [(.int 2), (.int p4)])) _
    refine XS.iushr X0.here hx rfl (hb hby at_31) rfl ?_
    refine XS.iconst X0.here hx rfl (hb hby at_32) ?_
    show Steps p.tables e below (s₁.setTop (mkF m 33 #[.val (.int p0), .val (.int p1), .val (.int p2), .val (.int p3), .val (.int p4), .val (.int p0), .val (.int p3), .unset, .unset, .unset, .unset] [(.int 3), (.int ((p4.toUInt32 >>> ((2 : Int32) &&& 31).toUInt32).toInt32))])) _
    refine XS.iand X0.here hx rfl (hb hby at_33) rfl ?_
    show Steps p.tables e below (s₁.setTop (mkF m 34 #[.val (.int p0), .val (.int p1), .val (.int p2), .val (.int p3), .val (.int p4), .val (.int p0), .val (.int p3), .unset, .unset, .unset, .unset] [(.int (((p4.toUInt32 >>> ((2 : Int32) &&& 31).toUInt32).toInt32) &&& (3 : Int32)))])) _
    rw [f3]
    refine XS.istore X0.here hx rfl (hb hby at_34) rfl (l' := #[.val (.int p0), .val (.int p1), .val (.int p2), .val (.int p3), .val (.int p4), .val (.int p0), .val (.int p3), .val (.int 0), .unset, .unset, .unset]) rfl ?_
    show Steps p.tables e below (s₁.setTop (mkF m 36 #[.val (.int p0), .val (.int p1), .val (.int p2), .val (.int p3), .val (.int p4), .val (.int p0), .val (.int p3), .val (.int 0), .unset, .unset, .unset] [])) _
    refine st1 _ ?_
    refine XS.dup X1.here hx rfl (hb hby at_39) rfl rfl ?_
    refine XS.iloadN X1.here hx rfl (hb hby at_40) rfl ?_
    refine XS.iloadN X1.here hx rfl (hb hby at_41) rfl ?_
    show Steps p.tables e below (T1.setTop (mkF m 42 #[.val (.int p0), .val (.int p1), .val (.int p2), .val (.int p3), .val (.int p4), .val (.int p0), .val (.int p3), .val (.int 0), .unset, .unset, .unset] [(.int p1), (.int p0), (.ref b66), (.ref b66)])) _
    refine st2.trans ?_
    refine XS.astore X2.here hx rfl (hb hby at_45) rfl rfl (l' := #[.val (.int p0), .val (.int p1), .val (.int p2), .val (.int p3), .val (.int p4), .val (.int p0), .val (.int p3), .val (.int 0), .val (.ref b66), .unset, .unset]) rfl ?_
    show Steps p.tables e below (T2.setTop (mkF m 47 #[.val (.int p0), .val (.int p1), .val (.int p2), .val (.int p3), .val (.int p4), .val (.int p0), .val (.int p3), .val (.int 0), .val (.ref b66), .unset, .unset] [])) _
    refine st3 _ ?_
    refine XS.dup X3.here hx rfl (hb hby at_50) rfl rfl ?_
    refine XS.iload X3.here hx rfl (hb hby at_51) rfl ?_
    refine XS.iload X3.here hx rfl (hb hby at_53) rfl ?_
    show Steps p.tables e below (T3.setTop (mkF m 55 #[.val (.int p0), .val (.int p1), .val (.int p2), .val (.int p3), .val (.int p4), .val (.int p0), .val (.int p3), .val (.int 0), .val (.ref b66), .unset, .unset] [(.int p3), (.int p0), (.ref b67), (.ref b67)])) _
    refine st4.trans ?_
    refine XS.astore X4.here hx rfl (hb hby at_58) rfl rfl (l' := #[.val (.int p0), .val (.int p1), .val (.int p2), .val (.int p3), .val (.int p4), .val (.int p0), .val (.int p3), .val (.int 0), .val (.ref b66), .val (.ref b67), .unset]) rfl ?_
    refine XS.iload X4.here hx rfl (hb hby at_60) rfl ?_
    refine XS.ifNo X4.here hx rfl (hb hby at_62) rfl (by decide) ?_
    refine XS.iload X4.here hx rfl (hb hby at_65) rfl ?_
    show Steps p.tables e below (T4.setTop (mkF m 67 #[.val (.int p0), .val (.int p1), .val (.int p2), .val (.int p3), .val (.int p4), .val (.int p0), .val (.int p3), .val (.int 0), .val (.ref b66), .val (.ref b67), .unset] [(.int p0)])) _
    refine XS.iloadN X4.here hx rfl (hb hby at_67) rfl ?_
    refine XS.icmpNo X4.here hx rfl (hb hby at_68) rfl (teq (rfl : p0 = p0)).2 ?_
    refine XS.iload X4.here hx rfl (hb hby at_71) rfl ?_
    refine XS.iloadN X4.here hx rfl (hb hby at_73) rfl ?_
    refine XS.icmpNo X4.here hx rfl (hb hby at_74) rfl (teq (f4 : p3 = p1)).2 ?_
    show Steps p.tables e below (T4.setTop (mkF m 77 #[.val (.int p0), .val (.int p1), .val (.int p2), .val (.int p3), .val (.int p4), .val (.int p0), .val (.int p3), .val (.int 0), .val (.ref b66), .val (.ref b67), .unset] [])) _
    refine XS.iconst X4.here hx rfl (hb hby at_77) ?_
    refine XS.goto X4.here hx rfl (pc0 := 78) (pc' := 82) rfl (hb hby at_78) (by decide) (by decide) ?_
    refine XS.istore X4.here hx rfl (hb hby at_82) rfl (l' := #[.val (.int p0), .val (.int p1), .val (.int p2), .val (.int p3), .val (.int p4), .val (.int p0), .val (.int p3), .val (.int 0), .val (.ref b66), .val (.ref b67), .val (.int 1)]) rfl ?_
    refine XS.aload X4.here hx rfl (hb hby at_84) rfl rfl ?_
    refine XS.aload X4.here hx rfl (hb hby at_86) rfl rfl ?_
    show Steps p.tables e below (T4.setTop (mkF m 88 #[.val (.int p0), .val (.int p1), .val (.int p2), .val (.int p3), .val (.int p4), .val (.int p0), .val (.int p3), .val (.int 0), .val (.ref b66), .val (.ref b67), .val (.int 1)] [(.ref b67), (.ref b66)])) _
    refine st12.trans ?_
    refine XS.iload X12.here hx rfl (hb hby at_91) rfl ?_
    refine XS.icmpNo X12.here hx rfl (hb hby at_93) rfl (by decide) ?_
    refine XS.aload X12.here hx rfl (hb hby at_96) rfl rfl ?_
    refine XS.aload X12.here hx rfl (hb hby at_98) rfl rfl ?_
    show Steps p.tables e below (T12.setTop (mkF m 100 #[.val (.int p0), .val (.int p1), .val (.int p2), .val (.int p3), .val (.int p4), .val (.int p0), .val (.int p3), .val (.int 0), .val (.ref b66), .val (.ref b67), .val (.int 1)] [(.ref b66), (.ref b67)])) _
    refine st15.trans ?_
    refine XS.iload X15.here hx rfl (hb hby at_103) rfl ?_
    refine XS.icmpNo X15.here hx rfl (hb hby at_105) rfl (by decide) ?_
    refine XS.iconst X15.here hx rfl (hb hby at_108) ?_
    refine XS.goto X15.here hx rfl (pc0 := 109) (pc' := 113) rfl (hb hby at_109) (by decide) (by decide) ?_
    show Steps p.tables e below (T15.setTop (mkF m 113 #[.val (.int p0), .val (.int p1), .val (.int p2), .val (.int p3), .val (.int p4), .val (.int p0), .val (.int p3), .val (.int 0), .val (.ref b66), .val (.ref b67), .val (.int 1)] [(.int 1)])) _
    exact retN X15 hx (t := .boolean) Bd.returns (by simp) (hb hby at_113) hr
  · show QT n0 _ T15.heap _
    rw [e15]
    exact ⟨rfl, N15⟩
set_option maxRecDepth 65536 in
set_option maxHeartbeats 40000000 in
theorem rm4_75 (l : Launch) (Z : State) (a0 : Array Value) (hw : ∀ d ∈ tables_1, d.before a0 Z = true) (ws : List Jvm.Cond) (c0_a : Addr) (c1_a : Addr) (p0 : Int32) (p3 : Int32) (p1 : Int32) (h0 : Heap) (n0 : Nat) (Z0 : n0 ≤ h0.size) (f1 : E_1 Z h0 c1_a) (f2 : F_0 Z h0 c1_a (.int p0)) (f3 : F_0 Z h0 c0_a (.int p0)) (f4 : F_1 Z h0 c1_a (.int p3)) (f5 : F_1 Z h0 c0_a (.int p1)) (f6 : ¬ (p3 = p1)) :
    MetFree l M_2 (head1 (Jvm.Cond.code M_2 prog_3_method_4_code 3 (some .boolean) :: ws) R_0_0_0_0) (fun a U => a = #[(.ref c0_a), (.ref c1_a)] ∧ Z.Warmed39 U.vm ∧ U.heap = h0) (fun _ _ _ _ _ => True) (fun _ U o U' => ∃ v L, o = .returned v ∧ QP (some (.int 0)) h0 n0 v U'.heap L ∧ FrameEnd U o U' L R_0_0_0_0.cells R_0_0_0_0.slots) := by
  refine MetFree.of_bodySF (plainFor_of_name pn_hexwright_board_Hex) hisR ?_
  intro p e s m args below meth c s₁ Bd hml0 hP hK
  obtain ⟨rfl, hZ, hh⟩ := hP
  have hx := Bd.exec
  have hby := Bd.bytes
  have hml : c.maxLocals = 3 := hml0
  have hown : s.vm.findClass "hexwright/board/Hex" = some m.cls := findClass_of_methodNamed Bd.named
  have hnm := (name_of_methodNamed Bd.named Bd.method).1
  have X0 : Stand p l e R_0_0_0_0 s m #[(.ref c0_a), (.ref c1_a)] below meth c s₁ [] 0 0 := Stand.of_body Bd
  have e0 : s₁.heap = h0 := by rw [← hh, Bd.state]; rfl
  have N0 := Fr.nil n0
  obtain ⟨T1, X1, e1, st1⟩ := instY X0 hx hZ hown (tw_23 hw) e0 (Ins.self f1) (g := (mkF m 1 #[.val (.ref c0_a), .val (.ref c1_a), .unset] [(.ref c1_a)])) rfl rfl (hb hby d4_1)
  obtain ⟨T2, X2, e2, st2⟩ := castY X1 hx hZ hown (tw_23 hw) e1 (Ins.self f1) (g := (mkF m 8 #[.val (.ref c0_a), .val (.ref c1_a), .unset] [(.ref c1_a)])) rfl rfl (hb hby d4_8)
  obtain ⟨T3, X3, e3, st3⟩ := getF X2 hx hZ hown (host := "") (Or.inl (tw_14 hw)) Via.refl e2 f2 (g := (mkF m 13 #[.val (.ref c0_a), .val (.ref c1_a), .val (.ref c1_a)] [(.ref c1_a)])) rfl rfl (hb hby d4_13)
  obtain ⟨T4, X4, e4, st4⟩ := getF X3 hx hZ hown (host := "") (Or.inl (tw_14 hw)) Via.refl e3 f3 (g := (mkF m 17 #[.val (.ref c0_a), .val (.ref c1_a), .val (.ref c1_a)] [(.ref c0_a), (.int p0)])) rfl rfl (hb hby d4_17)
  obtain ⟨T5, X5, e5, st5⟩ := getF X4 hx hZ hown (host := "") (Or.inl (tw_16 hw)) Via.refl e4 f4 (g := (mkF m 24 #[.val (.ref c0_a), .val (.ref c1_a), .val (.ref c1_a)] [(.ref c1_a)])) rfl rfl (hb hby d4_24)
  obtain ⟨T6, X6, e6, st6⟩ := getF X5 hx hZ hown (host := "") (Or.inl (tw_16 hw)) Via.refl e5 f5 (g := (mkF m 28 #[.val (.ref c0_a), .val (.ref c1_a), .val (.ref c1_a)] [(.ref c0_a), (.int p3)])) rfl rfl (hb hby d4_28)
  obtain ⟨fs, hr, hrun, hended, hW, hsame⟩ := X6.leave (v := (some (.int 0))) (fun h => by rw [Bd.returns] at h; cases h)
  refine ⟨_, _, castTop (ef4_RR m c0_a c1_a) ?_, hrun, hended, _, _, rfl, ?_, ⟨_, rfl⟩, hW, hsame.mono (by decide) (by decide)⟩
  · show Steps p.tables e below (s₁.setTop (mkF m 0 #[.val (.ref c0_a), .val (.ref c1_a), .unset] [])) _
    refine XS.aloadN X0.here hx rfl (hb hby d4_0) rfl rfl ?_
    show Steps p.tables e below (s₁.setTop (mkF m 1 #[.val (.ref c0_a), .val (.ref c1_a), .unset] [(.ref c1_a)])) _
    refine st1 _ ?_
    refine XS.ifNo X1.here hx rfl (hb hby d4_4) rfl (by decide) ?_
    refine XS.aloadN X1.here hx rfl (hb hby d4_7) rfl rfl ?_
    show Steps p.tables e below (T1.setTop (mkF m 8 #[.val (.ref c0_a), .val (.ref c1_a), .unset] [(.ref c1_a)])) _
    refine st2 _ ?_
    refine XS.astoreN X2.here hx rfl (hb hby d4_11) rfl rfl (l' := #[.val (.ref c0_a), .val (.ref c1_a), .val (.ref c1_a)]) rfl ?_
    refine XS.aloadN X2.here hx rfl (hb hby d4_12) rfl rfl ?_
    show Steps p.tables e below (T2.setTop (mkF m 13 #[.val (.ref c0_a), .val (.ref c1_a), .val (.ref c1_a)] [(.ref c1_a)])) _
    refine st3 _ ?_
    refine XS.aloadN X3.here hx rfl (hb hby d4_16) rfl rfl ?_
    show Steps p.tables e below (T3.setTop (mkF m 17 #[.val (.ref c0_a), .val (.ref c1_a), .val (.ref c1_a)] [(.ref c0_a), (.int p0)])) _
    refine st4 _ ?_
    refine XS.icmpNo X4.here hx rfl (hb hby d4_20) rfl (teq (rfl : p0 = p0)).2 ?_
    refine XS.aloadN X4.here hx rfl (hb hby d4_23) rfl rfl ?_
    show Steps p.tables e below (T4.setTop (mkF m 24 #[.val (.ref c0_a), .val (.ref c1_a), .val (.ref c1_a)] [(.ref c1_a)])) _
    refine st5 _ ?_
    refine XS.aloadN X5.here hx rfl (hb hby d4_27) rfl rfl ?_
    show Steps p.tables e below (T5.setTop (mkF m 28 #[.val (.ref c0_a), .val (.ref c1_a), .val (.ref c1_a)] [(.ref c0_a), (.int p3)])) _
    refine st6 _ ?_
    refine XS.icmpYes X6.here hx rfl (pc0 := 31) (pc' := 38) rfl (hb hby d4_31) rfl (feq (f6 : ¬ (p3 = p1))).2 (by decide) (by decide) ?_
    refine XS.iconst X6.here hx rfl (hb hby d4_38) ?_
    show Steps p.tables e below (T6.setTop (mkF m 39 #[.val (.ref c0_a), .val (.ref c1_a), .val (.ref c1_a)] [(.int 0)])) _
    exact retN X6 hx (t := .boolean) Bd.returns (by simp) (hb hby d4_39) hr
  · show QP (some (.int 0)) h0 n0 _ T6.heap _
    rw [e6]
    exact ⟨rfl, N0, rfl⟩
set_option maxRecDepth 65536 in
set_option maxHeartbeats 40000000 in
theorem rm4_76 (l : Launch) (Z : State) (a0 : Array Value) (hw : ∀ d ∈ tables_1, d.before a0 Z = true) (ws : List Jvm.Cond) (c0_a : Addr) (c1_a : Addr) (p0 : Int32) (p1 : Int32) (p3 : Int32) (h0 : Heap) (n0 : Nat) (Z0 : n0 ≤ h0.size) (f1 : E_1 Z h0 c1_a) (f2 : F_0 Z h0 c1_a (.int p0)) (f3 : F_0 Z h0 c0_a (.int p0)) (f4 : F_1 Z h0 c1_a (.int p1)) (f5 : F_1 Z h0 c0_a (.int p3)) (f6 : ¬ (p1 = p3)) :
    MetFree l M_2 (head1 (Jvm.Cond.code M_2 prog_3_method_4_code 3 (some .boolean) :: ws) R_0_0_0_0) (fun a U => a = #[(.ref c0_a), (.ref c1_a)] ∧ Z.Warmed39 U.vm ∧ U.heap = h0) (fun _ _ _ _ _ => True) (fun _ U o U' => ∃ v L, o = .returned v ∧ QP (some (.int 0)) h0 n0 v U'.heap L ∧ FrameEnd U o U' L R_0_0_0_0.cells R_0_0_0_0.slots) := by
  refine MetFree.of_bodySF (plainFor_of_name pn_hexwright_board_Hex) hisR ?_
  intro p e s m args below meth c s₁ Bd hml0 hP hK
  obtain ⟨rfl, hZ, hh⟩ := hP
  have hx := Bd.exec
  have hby := Bd.bytes
  have hml : c.maxLocals = 3 := hml0
  have hown : s.vm.findClass "hexwright/board/Hex" = some m.cls := findClass_of_methodNamed Bd.named
  have hnm := (name_of_methodNamed Bd.named Bd.method).1
  have X0 : Stand p l e R_0_0_0_0 s m #[(.ref c0_a), (.ref c1_a)] below meth c s₁ [] 0 0 := Stand.of_body Bd
  have e0 : s₁.heap = h0 := by rw [← hh, Bd.state]; rfl
  have N0 := Fr.nil n0
  obtain ⟨T1, X1, e1, st1⟩ := instY X0 hx hZ hown (tw_23 hw) e0 (Ins.self f1) (g := (mkF m 1 #[.val (.ref c0_a), .val (.ref c1_a), .unset] [(.ref c1_a)])) rfl rfl (hb hby d4_1)
  obtain ⟨T2, X2, e2, st2⟩ := castY X1 hx hZ hown (tw_23 hw) e1 (Ins.self f1) (g := (mkF m 8 #[.val (.ref c0_a), .val (.ref c1_a), .unset] [(.ref c1_a)])) rfl rfl (hb hby d4_8)
  obtain ⟨T3, X3, e3, st3⟩ := getF X2 hx hZ hown (host := "") (Or.inl (tw_14 hw)) Via.refl e2 f2 (g := (mkF m 13 #[.val (.ref c0_a), .val (.ref c1_a), .val (.ref c1_a)] [(.ref c1_a)])) rfl rfl (hb hby d4_13)
  obtain ⟨T4, X4, e4, st4⟩ := getF X3 hx hZ hown (host := "") (Or.inl (tw_14 hw)) Via.refl e3 f3 (g := (mkF m 17 #[.val (.ref c0_a), .val (.ref c1_a), .val (.ref c1_a)] [(.ref c0_a), (.int p0)])) rfl rfl (hb hby d4_17)
  obtain ⟨T5, X5, e5, st5⟩ := getF X4 hx hZ hown (host := "") (Or.inl (tw_16 hw)) Via.refl e4 f4 (g := (mkF m 24 #[.val (.ref c0_a), .val (.ref c1_a), .val (.ref c1_a)] [(.ref c1_a)])) rfl rfl (hb hby d4_24)
  obtain ⟨T6, X6, e6, st6⟩ := getF X5 hx hZ hown (host := "") (Or.inl (tw_16 hw)) Via.refl e5 f5 (g := (mkF m 28 #[.val (.ref c0_a), .val (.ref c1_a), .val (.ref c1_a)] [(.ref c0_a), (.int p1)])) rfl rfl (hb hby d4_28)
  obtain ⟨fs, hr, hrun, hended, hW, hsame⟩ := X6.leave (v := (some (.int 0))) (fun h => by rw [Bd.returns] at h; cases h)
  refine ⟨_, _, castTop (ef4_RR m c0_a c1_a) ?_, hrun, hended, _, _, rfl, ?_, ⟨_, rfl⟩, hW, hsame.mono (by decide) (by decide)⟩
  · show Steps p.tables e below (s₁.setTop (mkF m 0 #[.val (.ref c0_a), .val (.ref c1_a), .unset] [])) _
    refine XS.aloadN X0.here hx rfl (hb hby d4_0) rfl rfl ?_
    show Steps p.tables e below (s₁.setTop (mkF m 1 #[.val (.ref c0_a), .val (.ref c1_a), .unset] [(.ref c1_a)])) _
    refine st1 _ ?_
    refine XS.ifNo X1.here hx rfl (hb hby d4_4) rfl (by decide) ?_
    refine XS.aloadN X1.here hx rfl (hb hby d4_7) rfl rfl ?_
    show Steps p.tables e below (T1.setTop (mkF m 8 #[.val (.ref c0_a), .val (.ref c1_a), .unset] [(.ref c1_a)])) _
    refine st2 _ ?_
    refine XS.astoreN X2.here hx rfl (hb hby d4_11) rfl rfl (l' := #[.val (.ref c0_a), .val (.ref c1_a), .val (.ref c1_a)]) rfl ?_
    refine XS.aloadN X2.here hx rfl (hb hby d4_12) rfl rfl ?_
    show Steps p.tables e below (T2.setTop (mkF m 13 #[.val (.ref c0_a), .val (.ref c1_a), .val (.ref c1_a)] [(.ref c1_a)])) _
    refine st3 _ ?_
    refine XS.aloadN X3.here hx rfl (hb hby d4_16) rfl rfl ?_
    show Steps p.tables e below (T3.setTop (mkF m 17 #[.val (.ref c0_a), .val (.ref c1_a), .val (.ref c1_a)] [(.ref c0_a), (.int p0)])) _
    refine st4 _ ?_
    refine XS.icmpNo X4.here hx rfl (hb hby d4_20) rfl (teq (rfl : p0 = p0)).2 ?_
    refine XS.aloadN X4.here hx rfl (hb hby d4_23) rfl rfl ?_
    show Steps p.tables e below (T4.setTop (mkF m 24 #[.val (.ref c0_a), .val (.ref c1_a), .val (.ref c1_a)] [(.ref c1_a)])) _
    refine st5 _ ?_
    refine XS.aloadN X5.here hx rfl (hb hby d4_27) rfl rfl ?_
    show Steps p.tables e below (T5.setTop (mkF m 28 #[.val (.ref c0_a), .val (.ref c1_a), .val (.ref c1_a)] [(.ref c0_a), (.int p1)])) _
    refine st6 _ ?_
    refine XS.icmpYes X6.here hx rfl (pc0 := 31) (pc' := 38) rfl (hb hby d4_31) rfl (feq (f6 : ¬ (p1 = p3))).2 (by decide) (by decide) ?_
    refine XS.iconst X6.here hx rfl (hb hby d4_38) ?_
    show Steps p.tables e below (T6.setTop (mkF m 39 #[.val (.ref c0_a), .val (.ref c1_a), .val (.ref c1_a)] [(.int 0)])) _
    exact retN X6 hx (t := .boolean) Bd.returns (by simp) (hb hby d4_39) hr
  · show QP (some (.int 0)) h0 n0 _ T6.heap _
    rw [e6]
    exact ⟨rfl, N0, rfl⟩
set_option maxRecDepth 65536 in
set_option maxHeartbeats 40000000 in
theorem rm0_77 (l : Launch) (Z : State) (a0 : Array Value) (hw : ∀ d ∈ tables_1, d.before a0 Z = true) (ws : List Jvm.Cond) (p0 : Int32) (p1 : Int32) (p2 : Int32) (p3 : Int32) (p4 : Int32) (h0 : Heap) (n0 : Nat) (Z0 : n0 ≤ h0.size) (f1 : ¬ ((p4 &&& (1 : Int32)) = (0 : Int32))) (f2 : (p4 &&& (2 : Int32)) = (0 : Int32)) (f3 : (((p4.toUInt32 >>> ((2 : Int32) &&& 31).toUInt32).toInt32) &&& (3 : Int32)) = (0 : Int32)) (f4 : ¬ (p3 = p1)) (f5 : ¬ (p1 = p3)) :
    MetFree l x (head1 (Jvm.Cond.code x code maxLocals ret :: ws) room_1) (fun a U => a = #[(.int p0), (.int p1), (.int p2), (.int p3), (.int p4)] ∧ Z.Warmed39 U.vm ∧ U.heap = h0) (fun _ _ _ _ _ => True) (fun _ U o U' => ∃ v L, o = .returned v ∧ QT n0 v U'.heap L ∧ FrameEnd U o U' L room_1.cells room_1.slots) := by
  refine MetFree.of_bodySF (plainFor_of_name pn_hexwright_board_HexEqualsPinLaw) hisR ?_
  intro p e s m args below meth c s₁ Bd hml0 hP hK
  obtain ⟨rfl, hZ, hh⟩ := hP
  have hx := Bd.exec
  have hby := Bd.bytes
  have hml : c.maxLocals = 11 := hml0
  have hown : s.vm.findClass "hexwright/board/HexEqualsPinLaw" = some m.cls := findClass_of_methodNamed Bd.named
  have hnm := (name_of_methodNamed Bd.named Bd.method).1
  have X0 : Stand p l e room_1 s m #[(.int p0), (.int p1), (.int p2), (.int p3), (.int p4)] below meth c s₁ [] 0 0 := Stand.of_body Bd
  have e0 : s₁.heap = h0 := by rw [← hh, Bd.state]; rfl
  have N0 := Fr.nil n0
  obtain ⟨T1, h1, X1, e1, E1, A1, D1, -, st1⟩ := newO X0 hx hZ hown (tw_0 hw) (tw_1 hw) (tw_2 hw) e0 (g := (mkF m 36 #[.val (.int p0), .val (.int p1), .val (.int p2), .val (.int p3), .val (.int p4), .val (.int p0), .val (.int p3), .val (.int 0), .unset, .unset, .unset] [])) rfl (hb hby at_36) (by decide) (by decide)
  obtain ⟨b73, g1⟩ : ∃ z, z = h0.size := ⟨_, rfl⟩
  rw [← g1] at A1 D1 st1
  have sz_b73 : h0.size ≤ b73 := Nat.le_trans (Nat.le_refl _) (Nat.le_of_eq g1.symm)
  have g_b73 : n0 ≤ b73 := Nat.le_trans Z0 sz_b73
  have KK1 : Keep h0 h1 [] := (Keep.refl h0 []).ext E1
  have F1_15 : F_0 Z h1 b73 (.int 0) := D1 (Or.inr (tw_15 hw)) (ty := .int) (by decide)
  have F1_17 : F_1 Z h1 b73 (.int 0) := D1 (Or.inr (tw_17 hw)) (ty := .int) (by decide)
  -- pc 42: hexwright/board/Hex.<init>
  obtain ⟨_, _, ⟨T2, L2, k2, n2⟩, -, X2, ⟨Lc2, hQ2, l2, y2, z2⟩, st2⟩ := X1.specialBack hx (y := M_1) rfl hown (mvT hZ (tw_3 hw)) (mvT hZ (tw_4 hw)) (mvT hZ (tw_5 hw)) (by decide) (backOf (W := 1) (rm1_3 l Z a0 hw [] b73 p0 p1 h1 n0 (Nat.le_trans Z0 KK1.1) F1_15 A1 g_b73 F1_17) hZ (tw_5 hw) (tw_2 hw) (by decide) (by decide)) (g := (mkF m 42 #[.val (.int p0), .val (.int p1), .val (.int p2), .val (.int p3), .val (.int p4), .val (.int p0), .val (.int p3), .val (.int 0), .unset, .unset, .unset] [(.int p1), (.int p0), (.ref b73), (.ref b73)])) rfl (by rw [hml]; rfl) (Steps.refl _) (a := b73) (argsL := [(.int p0), (.int p1)]) (rest := [(.ref b73)]) (lenOf pd_1 rfl) rfl (by show 2 * 0 + _ ≤ _; exact Nat.le_of_eq rfl) (hb hby at_42) (fun _ _ => ⟨rfl, e1, (by decide : 1 + 0 ≤ _), (by decide : 2 + 0 ≤ _)⟩)
  dsimp only [Pt.U, Pt.locs, Pt.cells, Pt.slots] at X2 l2 y2 z2 st2 hQ2
  subst l2 y2 z2
  obtain ⟨rfl, Nq2, K2, o2_0, o2_1⟩ := hQ2
  have N2 := Fr.app N0 Nq2
  have KK2 : Keep h0 T2.heap [] := KK1.trans K2 (fun x hx => (List.mem_cons.mp hx).elim (fun q => q ▸ (Or.inr sz_b73)) (fun hx => nomatch hx))
  obtain ⟨T3, h3, X3, e3, E3, A3, D3, -, st3⟩ := newO X2 hx hZ hown (tw_0 hw) (tw_1 hw) (tw_2 hw) rfl (g := (mkF m 47 #[.val (.int p0), .val (.int p1), .val (.int p2), .val (.int p3), .val (.int p4), .val (.int p0), .val (.int p3), .val (.int 0), .val (.ref b73), .unset, .unset] [])) rfl (hb hby at_47) (by decide) (by decide)
  obtain ⟨b74, g3⟩ : ∃ z, z = T2.heap.size := ⟨_, rfl⟩
  rw [← g3] at A3 D3 st3
  have sz_b74 : h0.size ≤ b74 := Nat.le_trans KK2.1 (Nat.le_of_eq g3.symm)
  have g_b74 : n0 ≤ b74 := Nat.le_trans Z0 sz_b74
  have KK3 : Keep h0 h3 [] := KK2.ext E3
  have F3_15 : F_0 Z h3 b74 (.int 0) := D3 (Or.inr (tw_15 hw)) (ty := .int) (by decide)
  have F3_17 : F_1 Z h3 b74 (.int 0) := D3 (Or.inr (tw_17 hw)) (ty := .int) (by decide)
  -- pc 55: hexwright/board/Hex.<init>
  obtain ⟨_, _, ⟨T4, L4, k4, n4⟩, -, X4, ⟨Lc4, hQ4, l4, y4, z4⟩, st4⟩ := X3.specialBack hx (y := M_1) rfl hown (mvT hZ (tw_3 hw)) (mvT hZ (tw_4 hw)) (mvT hZ (tw_5 hw)) (by decide) (backOf (W := 1) (rm1_68 l Z a0 hw [] b74 p0 p3 h3 n0 (Nat.le_trans Z0 KK3.1) F3_15 A3 g_b74 F3_17) hZ (tw_5 hw) (tw_2 hw) (by decide) (by decide)) (g := (mkF m 55 #[.val (.int p0), .val (.int p1), .val (.int p2), .val (.int p3), .val (.int p4), .val (.int p0), .val (.int p3), .val (.int 0), .val (.ref b73), .unset, .unset] [(.int p3), (.int p0), (.ref b74), (.ref b74)])) rfl (by rw [hml]; rfl) (Steps.refl _) (a := b74) (argsL := [(.int p0), (.int p3)]) (rest := [(.ref b74)]) (lenOf pd_1 rfl) rfl (by show 2 * 0 + _ ≤ _; exact Nat.le_of_eq rfl) (hb hby at_55) (fun _ _ => ⟨rfl, e3, (by decide : 2 + 0 ≤ _), (by decide : 4 + 0 ≤ _)⟩)
  dsimp only [Pt.U, Pt.locs, Pt.cells, Pt.slots] at X4 l4 y4 z4 st4 hQ4
  subst l4 y4 z4
  obtain ⟨rfl, Nq4, K4, o4_0, o4_1⟩ := hQ4
  have N4 := Fr.app N2 Nq4
  have KK4 : Keep h0 T4.heap [] := KK3.trans K4 (fun x hx => (List.mem_cons.mp hx).elim (fun q => q ▸ (Or.inr sz_b74)) (fun hx => nomatch hx))
  -- pc 88: hexwright/board/Hex.equals
  have u5 : E_1 Z T4.heap b74 := Exa.keep A3 K4
  have u6 : F_0 Z h3 b73 (.int p0) := Fld.ext E3 o2_0
  have u7 : E_1 Z T2.heap b73 := Exa.keep A1 K2
  have ne8 : b73 ≠ b74 := Nat.ne_of_lt (Nat.lt_of_lt_of_le (Exa.lt u7) (Nat.le_of_eq g3.symm))
  have u9 : F_0 Z T4.heap b73 (.int p0) := Fld.keep u6 K4 (own_notin ne8 List.not_mem_nil)
  have u10 : F_1 Z h3 b73 (.int p1) := Fld.ext E3 o2_1
  have u11 : F_1 Z T4.heap b73 (.int p1) := Fld.keep u10 K4 (own_notin ne8 List.not_mem_nil)
  have u13 : E_1 Z h3 b73 := Exa.ext E3 u7
  have u14 : E_1 Z T4.heap b73 := Exa.keep u13 K4
  obtain ⟨cq12, kq12, q12a, q12b, q12c⟩ := isOf hZ rfl u14
  obtain ⟨_, _, ⟨T12, L12, k12, n12⟩, -, X12, ⟨Lc12, hQ12, l12, y12, z12⟩, st12⟩ := X4.virtualBack hx (y := M_2) (z := M_2) hown (mvT hZ (tw_18 hw)) (mvT hZ (tw_19 hw)) (notFace_of_selects (args := #[]) (mvT hZ (tw_21 hw))) (mvT hZ (tw_21 hw)) (mvT hZ (tw_20 hw)) (by decide) (backOf (W := 0) (rm4_75 l Z a0 hw [] b73 b74 p0 p3 p1 T4.heap n0 (Nat.le_trans Z0 KK4.1) u5 o4_0 u9 o4_1 u11 f4) hZ (tw_22 hw) (tw_2 hw) (by decide) (by decide)) q12a q12c (g := (mkF m 88 #[.val (.int p0), .val (.int p1), .val (.int p2), .val (.int p3), .val (.int p4), .val (.int p0), .val (.int p3), .val (.int 0), .val (.ref b73), .val (.ref b74), .val (.int 0)] [(.ref b74), (.ref b73)])) rfl (by rw [hml]; rfl) (Steps.refl _) (argsL := [(.ref b74)]) (rest := []) (lenOf pd_2 rfl) rfl (by show 2 * 0 + _ ≤ _; exact Nat.le_of_eq rfl) (hb hby at_88) (fun _ _ => ⟨rfl, rfl, (by decide : 2 + 0 ≤ _), (by decide : 4 + 0 ≤ _)⟩)
  dsimp only [Pt.U, Pt.locs, Pt.cells, Pt.slots] at X12 l12 y12 z12 st12 hQ12
  subst l12 y12 z12
  obtain ⟨rfl, Nq12, e12⟩ := hQ12
  have N12 := Fr.app N4 Nq12
  -- pc 100: hexwright/board/Hex.equals
  obtain ⟨cq15, kq15, q15a, q15b, q15c⟩ := isOf hZ e12 u5
  obtain ⟨_, _, ⟨T15, L15, k15, n15⟩, -, X15, ⟨Lc15, hQ15, l15, y15, z15⟩, st15⟩ := X12.virtualBack hx (y := M_2) (z := M_2) hown (mvT hZ (tw_18 hw)) (mvT hZ (tw_19 hw)) (notFace_of_selects (args := #[]) (mvT hZ (tw_21 hw))) (mvT hZ (tw_21 hw)) (mvT hZ (tw_20 hw)) (by decide) (backOf (W := 0) (rm4_76 l Z a0 hw [] b74 b73 p0 p1 p3 T4.heap n0 (Nat.le_trans Z0 KK4.1) u14 u9 o4_0 u11 o4_1 f5) hZ (tw_22 hw) (tw_2 hw) (by decide) (by decide)) q15a q15c (g := (mkF m 100 #[.val (.int p0), .val (.int p1), .val (.int p2), .val (.int p3), .val (.int p4), .val (.int p0), .val (.int p3), .val (.int 0), .val (.ref b73), .val (.ref b74), .val (.int 0)] [(.ref b73), (.ref b74)])) rfl (by rw [hml]; rfl) (Steps.refl _) (argsL := [(.ref b73)]) (rest := []) (lenOf pd_2 rfl) rfl (by show 2 * 0 + _ ≤ _; exact Nat.le_of_eq rfl) (hb hby at_100) (fun _ _ => ⟨rfl, e12, (by decide : 2 + 0 ≤ _), (by decide : 4 + 0 ≤ _)⟩)
  dsimp only [Pt.U, Pt.locs, Pt.cells, Pt.slots] at X15 l15 y15 z15 st15 hQ15
  subst l15 y15 z15
  obtain ⟨rfl, Nq15, e15⟩ := hQ15
  have N15 := Fr.app N12 Nq15
  obtain ⟨fs, hr, hrun, hended, hW, hsame⟩ := X15.leave (v := (some (.int 1))) (fun h => by rw [Bd.returns] at h; cases h)
  refine ⟨_, _, castTop (ef0_IIIII m p0 p1 p2 p3 p4) ?_, hrun, hended, _, _, rfl, ?_, ⟨_, rfl⟩, hW, hsame.mono (by decide) (by decide)⟩
  · show Steps p.tables e below (s₁.setTop (mkF m 0 #[.val (.int p0), .val (.int p1), .val (.int p2), .val (.int p3), .val (.int p4), .unset, .unset, .unset, .unset, .unset, .unset] [])) _
    refine XS.iload X0.here hx rfl (hb hby at_0) rfl ?_
    refine XS.iconst X0.here hx rfl (hb hby at_2) ?_
    show Steps p.tables e below (s₁.setTop (mkF m 3 #[.val (.int p0), .val (.int p1), .val (.int p2), .val (.int p3), .val (.int p4), .unset, .unset, .unset, .unset, .unset, .unset] [(.int 1), (.int p4)])) _
    refine XS.iand X0.here hx rfl (hb hby at_3) rfl ?_
    refine XS.ifNo X0.here hx rfl (hb hby at_4) rfl ((if0 _ _).trans (feq (f1 : ¬ ((p4 &&& (1 : Int32)) = (0 : Int32)))).1) ?_
    refine XS.iloadN X0.here hx rfl (hb hby at_7) rfl ?_
    refine XS.goto X0.here hx rfl (pc0 := 8) (pc' := 12) rfl (hb hby at_8) (by decide) (by decide) ?_
    refine XS.istore X0.here hx rfl (hb hby at_12) rfl (l' := #[.val (.int p0), .val (.int p1), .val (.int p2), .val (.int p3), .val (.int p4), .val (.int p0), .unset, .unset, .unset, .unset, .unset]) rfl ?_
    show Steps p.tables e below (s₁.setTop (mkF m 14 #[.val (.int p0), .val (.int p1), .val (.int p2), .val (.int p3), .val (.int p4), .val (.int p0), .unset, .unset, .unset, .unset, .unset] [])) _
    refine XS.iload X0.here hx rfl (hb hby at_14) rfl ?_
    refine XS.iconst X0.here hx rfl (hb hby at_16) ?_
    show Steps p.tables e below (s₁.setTop (mkF m 17 #[.val (.int p0), .val (.int p1), .val (.int p2), .val (.int p3), .val (.int p4), .val (.int p0), .unset, .unset, .unset, .unset, .unset] [(.int 2), (.int p4)])) _
    refine XS.iand X0.here hx rfl (hb hby at_17) rfl ?_
    refine XS.ifYes X0.here hx rfl (pc0 := 18) (pc' := 25) rfl (hb hby at_18) rfl ((if0 _ _).trans (teq (f2 : (p4 &&& (2 : Int32)) = (0 : Int32))).1) (by decide) (by decide) ?_
    refine XS.iloadN X0.here hx rfl (hb hby at_25) rfl ?_
    refine XS.istore X0.here hx rfl (hb hby at_26) rfl (l' := #[.val (.int p0), .val (.int p1), .val (.int p2), .val (.int p3), .val (.int p4), .val (.int p0), .val (.int p3), .unset, .unset, .unset, .unset]) rfl ?_
    refine XS.iload X0.here hx rfl (hb hby at_28) rfl ?_
    show Steps p.tables e below (s₁.setTop (mkF m 30 #[.val (.int p0), .val (.int p1), .val (.int p2), .val (.int p3), .val (.int p4), .val (.int p0), .val (.int p3), .unset, .unset, .unset, .unset] [(.int p4)])) _
    refine XS.iconst X0.here hx rfl (hb hby at_30) ?_
    show Steps p.tables e below (s₁.setTop (mkF m 31 #[.val (.int p0), .val (.int p1), .val (.int p2), .val (.int p3), .val (.int p4), .val (.int p0), .val (.int p3), .unset, .unset, .unset, .unset] [(.int 2), (.int p4)])) _
    refine XS.iushr X0.here hx rfl (hb hby at_31) rfl ?_
    refine XS.iconst X0.here hx rfl (hb hby at_32) ?_
    show Steps p.tables e below (s₁.setTop (mkF m 33 #[.val (.int p0), .val (.int p1), .val (.int p2), .val (.int p3), .val (.int p4), .val (.int p0), .val (.int p3), .unset, .unset, .unset, .unset] [(.int 3), (.int ((p4.toUInt32 >>> ((2 : Int32) &&& 31).toUInt32).toInt32))])) _
    refine XS.iand X0.here hx rfl (hb hby at_33) rfl ?_
    show Steps p.tables e below (s₁.setTop (mkF m 34 #[.val (.int p0), .val (.int p1), .val (.int p2), .val (.int p3), .val (.int p4), .val (.int p0), .val (.int p3), .unset, .unset, .unset, .unset] [(.int (((p4.toUInt32 >>> ((2 : Int32) &&& 31).toUInt32).toInt32) &&& (3 : Int32)))])) _
    rw [f3]
    refine XS.istore X0.here hx rfl (hb hby at_34) rfl (l' := #[.val (.int p0), .val (.int p1), .val (.int p2), .val (.int p3), .val (.int p4), .val (.int p0), .val (.int p3), .val (.int 0), .unset, .unset, .unset]) rfl ?_
    show Steps p.tables e below (s₁.setTop (mkF m 36 #[.val (.int p0), .val (.int p1), .val (.int p2), .val (.int p3), .val (.int p4), .val (.int p0), .val (.int p3), .val (.int 0), .unset, .unset, .unset] [])) _
    refine st1 _ ?_
    refine XS.dup X1.here hx rfl (hb hby at_39) rfl rfl ?_
    refine XS.iloadN X1.here hx rfl (hb hby at_40) rfl ?_
    refine XS.iloadN X1.here hx rfl (hb hby at_41) rfl ?_
    show Steps p.tables e below (T1.setTop (mkF m 42 #[.val (.int p0), .val (.int p1), .val (.int p2), .val (.int p3), .val (.int p4), .val (.int p0), .val (.int p3), .val (.int 0), .unset, .unset, .unset] [(.int p1), (.int p0), (.ref b73), (.ref b73)])) _
    refine st2.trans ?_
    refine XS.astore X2.here hx rfl (hb hby at_45) rfl rfl (l' := #[.val (.int p0), .val (.int p1), .val (.int p2), .val (.int p3), .val (.int p4), .val (.int p0), .val (.int p3), .val (.int 0), .val (.ref b73), .unset, .unset]) rfl ?_
    show Steps p.tables e below (T2.setTop (mkF m 47 #[.val (.int p0), .val (.int p1), .val (.int p2), .val (.int p3), .val (.int p4), .val (.int p0), .val (.int p3), .val (.int 0), .val (.ref b73), .unset, .unset] [])) _
    refine st3 _ ?_
    refine XS.dup X3.here hx rfl (hb hby at_50) rfl rfl ?_
    refine XS.iload X3.here hx rfl (hb hby at_51) rfl ?_
    refine XS.iload X3.here hx rfl (hb hby at_53) rfl ?_
    show Steps p.tables e below (T3.setTop (mkF m 55 #[.val (.int p0), .val (.int p1), .val (.int p2), .val (.int p3), .val (.int p4), .val (.int p0), .val (.int p3), .val (.int 0), .val (.ref b73), .unset, .unset] [(.int p3), (.int p0), (.ref b74), (.ref b74)])) _
    refine st4.trans ?_
    refine XS.astore X4.here hx rfl (hb hby at_58) rfl rfl (l' := #[.val (.int p0), .val (.int p1), .val (.int p2), .val (.int p3), .val (.int p4), .val (.int p0), .val (.int p3), .val (.int 0), .val (.ref b73), .val (.ref b74), .unset]) rfl ?_
    refine XS.iload X4.here hx rfl (hb hby at_60) rfl ?_
    refine XS.ifNo X4.here hx rfl (hb hby at_62) rfl (by decide) ?_
    refine XS.iload X4.here hx rfl (hb hby at_65) rfl ?_
    show Steps p.tables e below (T4.setTop (mkF m 67 #[.val (.int p0), .val (.int p1), .val (.int p2), .val (.int p3), .val (.int p4), .val (.int p0), .val (.int p3), .val (.int 0), .val (.ref b73), .val (.ref b74), .unset] [(.int p0)])) _
    refine XS.iloadN X4.here hx rfl (hb hby at_67) rfl ?_
    refine XS.icmpNo X4.here hx rfl (hb hby at_68) rfl (teq (rfl : p0 = p0)).2 ?_
    refine XS.iload X4.here hx rfl (hb hby at_71) rfl ?_
    refine XS.iloadN X4.here hx rfl (hb hby at_73) rfl ?_
    refine XS.icmpYes X4.here hx rfl (pc0 := 74) (pc' := 81) rfl (hb hby at_74) rfl (feq (f4 : ¬ (p3 = p1))).2 (by decide) (by decide) ?_
    show Steps p.tables e below (T4.setTop (mkF m 81 #[.val (.int p0), .val (.int p1), .val (.int p2), .val (.int p3), .val (.int p4), .val (.int p0), .val (.int p3), .val (.int 0), .val (.ref b73), .val (.ref b74), .unset] [])) _
    refine XS.iconst X4.here hx rfl (hb hby at_81) ?_
    refine XS.istore X4.here hx rfl (hb hby at_82) rfl (l' := #[.val (.int p0), .val (.int p1), .val (.int p2), .val (.int p3), .val (.int p4), .val (.int p0), .val (.int p3), .val (.int 0), .val (.ref b73), .val (.ref b74), .val (.int 0)]) rfl ?_
    refine XS.aload X4.here hx rfl (hb hby at_84) rfl rfl ?_
    refine XS.aload X4.here hx rfl (hb hby at_86) rfl rfl ?_
    show Steps p.tables e below (T4.setTop (mkF m 88 #[.val (.int p0), .val (.int p1), .val (.int p2), .val (.int p3), .val (.int p4), .val (.int p0), .val (.int p3), .val (.int 0), .val (.ref b73), .val (.ref b74), .val (.int 0)] [(.ref b74), (.ref b73)])) _
    refine st12.trans ?_
    refine XS.iload X12.here hx rfl (hb hby at_91) rfl ?_
    refine XS.icmpNo X12.here hx rfl (hb hby at_93) rfl (by decide) ?_
    refine XS.aload X12.here hx rfl (hb hby at_96) rfl rfl ?_
    refine XS.aload X12.here hx rfl (hb hby at_98) rfl rfl ?_
    show Steps p.tables e below (T12.setTop (mkF m 100 #[.val (.int p0), .val (.int p1), .val (.int p2), .val (.int p3), .val (.int p4), .val (.int p0), .val (.int p3), .val (.int 0), .val (.ref b73), .val (.ref b74), .val (.int 0)] [(.ref b73), (.ref b74)])) _
    refine st15.trans ?_
    refine XS.iload X15.here hx rfl (hb hby at_103) rfl ?_
    refine XS.icmpNo X15.here hx rfl (hb hby at_105) rfl (by decide) ?_
    refine XS.iconst X15.here hx rfl (hb hby at_108) ?_
    refine XS.goto X15.here hx rfl (pc0 := 109) (pc' := 113) rfl (hb hby at_109) (by decide) (by decide) ?_
    show Steps p.tables e below (T15.setTop (mkF m 113 #[.val (.int p0), .val (.int p1), .val (.int p2), .val (.int p3), .val (.int p4), .val (.int p0), .val (.int p3), .val (.int 0), .val (.ref b73), .val (.ref b74), .val (.int 0)] [(.int 1)])) _
    exact retN X15 hx (t := .boolean) Bd.returns (by simp) (hb hby at_113) hr
  · show QT n0 _ T15.heap _
    rw [e15]
    exact ⟨rfl, N15⟩
set_option maxRecDepth 65536 in
set_option maxHeartbeats 40000000 in
theorem rm0_80 (l : Launch) (Z : State) (a0 : Array Value) (hw : ∀ d ∈ tables_1, d.before a0 Z = true) (ws : List Jvm.Cond) (p0 : Int32) (p1 : Int32) (p2 : Int32) (p3 : Int32) (p4 : Int32) (h0 : Heap) (n0 : Nat) (Z0 : n0 ≤ h0.size) (f1 : ¬ ((p4 &&& (1 : Int32)) = (0 : Int32))) (f2 : (p4 &&& (2 : Int32)) = (0 : Int32)) (f3 : (((p4.toUInt32 >>> ((2 : Int32) &&& 31).toUInt32).toInt32) &&& (3 : Int32)) = (1 : Int32)) :
    MetFree l x (head1 (Jvm.Cond.code x code maxLocals ret :: ws) room_1) (fun a U => a = #[(.int p0), (.int p1), (.int p2), (.int p3), (.int p4)] ∧ Z.Warmed39 U.vm ∧ U.heap = h0) (fun _ _ _ _ _ => True) (fun _ U o U' => ∃ v L, o = .returned v ∧ QT n0 v U'.heap L ∧ FrameEnd U o U' L room_1.cells room_1.slots) := by
  refine MetFree.of_bodySF (plainFor_of_name pn_hexwright_board_HexEqualsPinLaw) hisR ?_
  intro p e s m args below meth c s₁ Bd hml0 hP hK
  obtain ⟨rfl, hZ, hh⟩ := hP
  have hx := Bd.exec
  have hby := Bd.bytes
  have hml : c.maxLocals = 11 := hml0
  have hown : s.vm.findClass "hexwright/board/HexEqualsPinLaw" = some m.cls := findClass_of_methodNamed Bd.named
  have hnm := (name_of_methodNamed Bd.named Bd.method).1
  have X0 : Stand p l e room_1 s m #[(.int p0), (.int p1), (.int p2), (.int p3), (.int p4)] below meth c s₁ [] 0 0 := Stand.of_body Bd
  have e0 : s₁.heap = h0 := by rw [← hh, Bd.state]; rfl
  have N0 := Fr.nil n0
  obtain ⟨T1, h1, X1, e1, E1, A1, D1, -, st1⟩ := newO X0 hx hZ hown (tw_0 hw) (tw_1 hw) (tw_2 hw) e0 (g := (mkF m 36 #[.val (.int p0), .val (.int p1), .val (.int p2), .val (.int p3), .val (.int p4), .val (.int p0), .val (.int p3), .val (.int 1), .unset, .unset, .unset] [])) rfl (hb hby at_36) (by decide) (by decide)
  obtain ⟨b78, g1⟩ : ∃ z, z = h0.size := ⟨_, rfl⟩
  rw [← g1] at A1 D1 st1
  have sz_b78 : h0.size ≤ b78 := Nat.le_trans (Nat.le_refl _) (Nat.le_of_eq g1.symm)
  have g_b78 : n0 ≤ b78 := Nat.le_trans Z0 sz_b78
  have KK1 : Keep h0 h1 [] := (Keep.refl h0 []).ext E1
  have F1_15 : F_0 Z h1 b78 (.int 0) := D1 (Or.inr (tw_15 hw)) (ty := .int) (by decide)
  have F1_17 : F_1 Z h1 b78 (.int 0) := D1 (Or.inr (tw_17 hw)) (ty := .int) (by decide)
  -- pc 42: hexwright/board/Hex.<init>
  obtain ⟨_, _, ⟨T2, L2, k2, n2⟩, -, X2, ⟨Lc2, hQ2, l2, y2, z2⟩, st2⟩ := X1.specialBack hx (y := M_1) rfl hown (mvT hZ (tw_3 hw)) (mvT hZ (tw_4 hw)) (mvT hZ (tw_5 hw)) (by decide) (backOf (W := 1) (rm1_3 l Z a0 hw [] b78 p0 p1 h1 n0 (Nat.le_trans Z0 KK1.1) F1_15 A1 g_b78 F1_17) hZ (tw_5 hw) (tw_2 hw) (by decide) (by decide)) (g := (mkF m 42 #[.val (.int p0), .val (.int p1), .val (.int p2), .val (.int p3), .val (.int p4), .val (.int p0), .val (.int p3), .val (.int 1), .unset, .unset, .unset] [(.int p1), (.int p0), (.ref b78), (.ref b78)])) rfl (by rw [hml]; rfl) (Steps.refl _) (a := b78) (argsL := [(.int p0), (.int p1)]) (rest := [(.ref b78)]) (lenOf pd_1 rfl) rfl (by show 2 * 0 + _ ≤ _; exact Nat.le_of_eq rfl) (hb hby at_42) (fun _ _ => ⟨rfl, e1, (by decide : 1 + 0 ≤ _), (by decide : 2 + 0 ≤ _)⟩)
  dsimp only [Pt.U, Pt.locs, Pt.cells, Pt.slots] at X2 l2 y2 z2 st2 hQ2
  subst l2 y2 z2
  obtain ⟨rfl, Nq2, K2, o2_0, o2_1⟩ := hQ2
  have N2 := Fr.app N0 Nq2
  have KK2 : Keep h0 T2.heap [] := KK1.trans K2 (fun x hx => (List.mem_cons.mp hx).elim (fun q => q ▸ (Or.inr sz_b78)) (fun hx => nomatch hx))
  obtain ⟨T3, h3, X3, e3, E3, A3, D3, -, st3⟩ := newO X2 hx hZ hown (tw_0 hw) (tw_1 hw) (tw_2 hw) rfl (g := (mkF m 47 #[.val (.int p0), .val (.int p1), .val (.int p2), .val (.int p3), .val (.int p4), .val (.int p0), .val (.int p3), .val (.int 1), .val (.ref b78), .unset, .unset] [])) rfl (hb hby at_47) (by decide) (by decide)
  obtain ⟨b79, g3⟩ : ∃ z, z = T2.heap.size := ⟨_, rfl⟩
  rw [← g3] at A3 D3 st3
  have sz_b79 : h0.size ≤ b79 := Nat.le_trans KK2.1 (Nat.le_of_eq g3.symm)
  have g_b79 : n0 ≤ b79 := Nat.le_trans Z0 sz_b79
  have KK3 : Keep h0 h3 [] := KK2.ext E3
  have F3_15 : F_0 Z h3 b79 (.int 0) := D3 (Or.inr (tw_15 hw)) (ty := .int) (by decide)
  have F3_17 : F_1 Z h3 b79 (.int 0) := D3 (Or.inr (tw_17 hw)) (ty := .int) (by decide)
  -- pc 55: hexwright/board/Hex.<init>
  obtain ⟨_, _, ⟨T4, L4, k4, n4⟩, -, X4, ⟨Lc4, hQ4, l4, y4, z4⟩, st4⟩ := X3.specialBack hx (y := M_1) rfl hown (mvT hZ (tw_3 hw)) (mvT hZ (tw_4 hw)) (mvT hZ (tw_5 hw)) (by decide) (backOf (W := 1) (rm1_68 l Z a0 hw [] b79 p0 p3 h3 n0 (Nat.le_trans Z0 KK3.1) F3_15 A3 g_b79 F3_17) hZ (tw_5 hw) (tw_2 hw) (by decide) (by decide)) (g := (mkF m 55 #[.val (.int p0), .val (.int p1), .val (.int p2), .val (.int p3), .val (.int p4), .val (.int p0), .val (.int p3), .val (.int 1), .val (.ref b78), .unset, .unset] [(.int p3), (.int p0), (.ref b79), (.ref b79)])) rfl (by rw [hml]; rfl) (Steps.refl _) (a := b79) (argsL := [(.int p0), (.int p3)]) (rest := [(.ref b79)]) (lenOf pd_1 rfl) rfl (by show 2 * 0 + _ ≤ _; exact Nat.le_of_eq rfl) (hb hby at_55) (fun _ _ => ⟨rfl, e3, (by decide : 2 + 0 ≤ _), (by decide : 4 + 0 ≤ _)⟩)
  dsimp only [Pt.U, Pt.locs, Pt.cells, Pt.slots] at X4 l4 y4 z4 st4 hQ4
  subst l4 y4 z4
  obtain ⟨rfl, Nq4, K4, o4_0, o4_1⟩ := hQ4
  have N4 := Fr.app N2 Nq4
  have KK4 : Keep h0 T4.heap [] := KK3.trans K4 (fun x hx => (List.mem_cons.mp hx).elim (fun q => q ▸ (Or.inr sz_b79)) (fun hx => nomatch hx))
  -- pc 123: hexwright/board/Hex.equals
  have u6 : E_1 Z T2.heap b78 := Exa.keep A1 K2
  have u7 : E_1 Z h3 b78 := Exa.ext E3 u6
  have u8 : E_1 Z T4.heap b78 := Exa.keep u7 K4
  obtain ⟨cq5, kq5, q5a, q5b, q5c⟩ := isOf hZ rfl u8
  obtain ⟨_, _, ⟨T5, L5, k5, n5⟩, -, X5, ⟨Lc5, hQ5, l5, y5, z5⟩, st5⟩ := X4.virtualBack hx (y := M_2) (z := M_2) hown (mvT hZ (tw_18 hw)) (mvT hZ (tw_19 hw)) (notFace_of_selects (args := #[]) (mvT hZ (tw_21 hw))) (mvT hZ (tw_21 hw)) (mvT hZ (tw_20 hw)) (by decide) (backOf (W := 0) (rm4_23 l Z a0 hw [] b78 T4.heap n0 (Nat.le_trans Z0 KK4.1) ) hZ (tw_22 hw) (tw_2 hw) (by decide) (by decide)) q5a q5c (g := (mkF m 123 #[.val (.int p0), .val (.int p1), .val (.int p2), .val (.int p3), .val (.int p4), .val (.int p0), .val (.int p3), .val (.int 1), .val (.ref b78), .val (.ref b79), .unset] [.null, (.ref b78)])) rfl (by rw [hml]; rfl) (Steps.refl _) (argsL := [.null]) (rest := []) (lenOf pd_2 rfl) rfl (by show 2 * 0 + _ ≤ _; exact Nat.le_of_eq rfl) (hb hby at_123) (fun _ _ => ⟨rfl, rfl, (by decide : 2 + 0 ≤ _), (by decide : 4 + 0 ≤ _)⟩)
  dsimp only [Pt.U, Pt.locs, Pt.cells, Pt.slots] at X5 l5 y5 z5 st5 hQ5
  subst l5 y5 z5
  obtain ⟨rfl, Nq5, e5⟩ := hQ5
  have N5 := Fr.app N4 Nq5
  obtain ⟨fs, hr, hrun, hended, hW, hsame⟩ := X5.leave (v := (some (.int 1))) (fun h => by rw [Bd.returns] at h; cases h)
  refine ⟨_, _, castTop (ef0_IIIII m p0 p1 p2 p3 p4) ?_, hrun, hended, _, _, rfl, ?_, ⟨_, rfl⟩, hW, hsame.mono (by decide) (by decide)⟩
  · show Steps p.tables e below (s₁.setTop (mkF m 0 #[.val (.int p0), .val (.int p1), .val (.int p2), .val (.int p3), .val (.int p4), .unset, .unset, .unset, .unset, .unset, .unset] [])) _
    refine XS.iload X0.here hx rfl (hb hby at_0) rfl ?_
    refine XS.iconst X0.here hx rfl (hb hby at_2) ?_
    show Steps p.tables e below (s₁.setTop (mkF m 3 #[.val (.int p0), .val (.int p1), .val (.int p2), .val (.int p3), .val (.int p4), .unset, .unset, .unset, .unset, .unset, .unset] [(.int 1), (.int p4)])) _
    refine XS.iand X0.here hx rfl (hb hby at_3) rfl ?_
    refine XS.ifNo X0.here hx rfl (hb hby at_4) rfl ((if0 _ _).trans (feq (f1 : ¬ ((p4 &&& (1 : Int32)) = (0 : Int32)))).1) ?_
    refine XS.iloadN X0.here hx rfl (hb hby at_7) rfl ?_
    refine XS.goto X0.here hx rfl (pc0 := 8) (pc' := 12) rfl (hb hby at_8) (by decide) (by decide) ?_
    refine XS.istore X0.here hx rfl (hb hby at_12) rfl (l' := #[.val (.int p0), .val (.int p1), .val (.int p2), .val (.int p3), .val (.int p4), .val (.int p0), .unset, .unset, .unset, .unset, .unset]) rfl ?_
    show Steps p.tables e below (s₁.setTop (mkF m 14 #[.val (.int p0), .val (.int p1), .val (.int p2), .val (.int p3), .val (.int p4), .val (.int p0), .unset, .unset, .unset, .unset, .unset] [])) _
    refine XS.iload X0.here hx rfl (hb hby at_14) rfl ?_
    refine XS.iconst X0.here hx rfl (hb hby at_16) ?_
    show Steps p.tables e below (s₁.setTop (mkF m 17 #[.val (.int p0), .val (.int p1), .val (.int p2), .val (.int p3), .val (.int p4), .val (.int p0), .unset, .unset, .unset, .unset, .unset] [(.int 2), (.int p4)])) _
    refine XS.iand X0.here hx rfl (hb hby at_17) rfl ?_
    refine XS.ifYes X0.here hx rfl (pc0 := 18) (pc' := 25) rfl (hb hby at_18) rfl ((if0 _ _).trans (teq (f2 : (p4 &&& (2 : Int32)) = (0 : Int32))).1) (by decide) (by decide) ?_
    refine XS.iloadN X0.here hx rfl (hb hby at_25) rfl ?_
    refine XS.istore X0.here hx rfl (hb hby at_26) rfl (l' := #[.val (.int p0), .val (.int p1), .val (.int p2), .val (.int p3), .val (.int p4), .val (.int p0), .val (.int p3), .unset, .unset, .unset, .unset]) rfl ?_
    refine XS.iload X0.here hx rfl (hb hby at_28) rfl ?_
    show Steps p.tables e below (s₁.setTop (mkF m 30 #[.val (.int p0), .val (.int p1), .val (.int p2), .val (.int p3), .val (.int p4), .val (.int p0), .val (.int p3), .unset, .unset, .unset, .unset] [(.int p4)])) _
    refine XS.iconst X0.here hx rfl (hb hby at_30) ?_
    show Steps p.tables e below (s₁.setTop (mkF m 31 #[.val (.int p0), .val (.int p1), .val (.int p2), .val (.int p3), .val (.int p4), .val (.int p0), .val (.int p3), .unset, .unset, .unset, .unset] [(.int 2), (.int p4)])) _
    refine XS.iushr X0.here hx rfl (hb hby at_31) rfl ?_
    refine XS.iconst X0.here hx rfl (hb hby at_32) ?_
    show Steps p.tables e below (s₁.setTop (mkF m 33 #[.val (.int p0), .val (.int p1), .val (.int p2), .val (.int p3), .val (.int p4), .val (.int p0), .val (.int p3), .unset, .unset, .unset, .unset] [(.int 3), (.int ((p4.toUInt32 >>> ((2 : Int32) &&& 31).toUInt32).toInt32))])) _
    refine XS.iand X0.here hx rfl (hb hby at_33) rfl ?_
    show Steps p.tables e below (s₁.setTop (mkF m 34 #[.val (.int p0), .val (.int p1), .val (.int p2), .val (.int p3), .val (.int p4), .val (.int p0), .val (.int p3), .unset, .unset, .unset, .unset] [(.int (((p4.toUInt32 >>> ((2 : Int32) &&& 31).toUInt32).toInt32) &&& (3 : Int32)))])) _
    rw [f3]
    refine XS.istore X0.here hx rfl (hb hby at_34) rfl (l' := #[.val (.int p0), .val (.int p1), .val (.int p2), .val (.int p3), .val (.int p4), .val (.int p0), .val (.int p3), .val (.int 1), .unset, .unset, .unset]) rfl ?_
    show Steps p.tables e below (s₁.setTop (mkF m 36 #[.val (.int p0), .val (.int p1), .val (.int p2), .val (.int p3), .val (.int p4), .val (.int p0), .val (.int p3), .val (.int 1), .unset, .unset, .unset] [])) _
    refine st1 _ ?_
    refine XS.dup X1.here hx rfl (hb hby at_39) rfl rfl ?_
    refine XS.iloadN X1.here hx rfl (hb hby at_40) rfl ?_
    refine XS.iloadN X1.here hx rfl (hb hby at_41) rfl ?_
    show Steps p.tables e below (T1.setTop (mkF m 42 #[.val (.int p0), .val (.int p1), .val (.int p2), .val (.int p3), .val (.int p4), .val (.int p0), .val (.int p3), .val (.int 1), .unset, .unset, .unset] [(.int p1), (.int p0), (.ref b78), (.ref b78)])) _
    refine st2.trans ?_
    refine XS.astore X2.here hx rfl (hb hby at_45) rfl rfl (l' := #[.val (.int p0), .val (.int p1), .val (.int p2), .val (.int p3), .val (.int p4), .val (.int p0), .val (.int p3), .val (.int 1), .val (.ref b78), .unset, .unset]) rfl ?_
    show Steps p.tables e below (T2.setTop (mkF m 47 #[.val (.int p0), .val (.int p1), .val (.int p2), .val (.int p3), .val (.int p4), .val (.int p0), .val (.int p3), .val (.int 1), .val (.ref b78), .unset, .unset] [])) _
    refine st3 _ ?_
    refine XS.dup X3.here hx rfl (hb hby at_50) rfl rfl ?_
    refine XS.iload X3.here hx rfl (hb hby at_51) rfl ?_
    refine XS.iload X3.here hx rfl (hb hby at_53) rfl ?_
    show Steps p.tables e below (T3.setTop (mkF m 55 #[.val (.int p0), .val (.int p1), .val (.int p2), .val (.int p3), .val (.int p4), .val (.int p0), .val (.int p3), .val (.int 1), .val (.ref b78), .unset, .unset] [(.int p3), (.int p0), (.ref b79), (.ref b79)])) _
    refine st4.trans ?_
    refine XS.astore X4.here hx rfl (hb hby at_58) rfl rfl (l' := #[.val (.int p0), .val (.int p1), .val (.int p2), .val (.int p3), .val (.int p4), .val (.int p0), .val (.int p3), .val (.int 1), .val (.ref b78), .val (.ref b79), .unset]) rfl ?_
    refine XS.iload X4.here hx rfl (hb hby at_60) rfl ?_
    refine XS.ifYes X4.here hx rfl (pc0 := 62) (pc' := 114) rfl (hb hby at_62) rfl (by decide) (by decide) (by decide) ?_
    refine XS.iload X4.here hx rfl (hb hby at_114) rfl ?_
    show Steps p.tables e below (T4.setTop (mkF m 116 #[.val (.int p0), .val (.int p1), .val (.int p2), .val (.int p3), .val (.int p4), .val (.int p0), .val (.int p3), .val (.int 1), .val (.ref b78), .val (.ref b79), .unset] [(.int 1)])) _
    refine XS.iconst X4.here hx rfl (hb hby at_116) ?_
    refine XS.icmpNo X4.here hx rfl (hb hby at_117) rfl (by decide) ?_
    refine XS.aload X4.here hx rfl (hb hby at_120) rfl rfl ?_
    refine XS.aconstNull X4.here hx rfl (hb hby at_122) ?_
    show Steps p.tables e below (T4.setTop (mkF m 123 #[.val (.int p0), .val (.int p1), .val (.int p2), .val (.int p3), .val (.int p4), .val (.int p0), .val (.int p3), .val (.int 1), .val (.ref b78), .val (.ref b79), .unset] [.null, (.ref b78)])) _
    refine st5.trans ?_
    refine XS.ifNo X5.here hx rfl (hb hby at_126) rfl (by decide) ?_
    refine XS.iconst X5.here hx rfl (hb hby at_129) ?_
    refine XS.goto X5.here hx rfl (pc0 := 130) (pc' := 134) rfl (hb hby at_130) (by decide) (by decide) ?_
    show Steps p.tables e below (T5.setTop (mkF m 134 #[.val (.int p0), .val (.int p1), .val (.int p2), .val (.int p3), .val (.int p4), .val (.int p0), .val (.int p3), .val (.int 1), .val (.ref b78), .val (.ref b79), .unset] [(.int 1)])) _
    exact retN X5 hx (t := .boolean) Bd.returns (by simp) (hb hby at_134) hr
  · show QT n0 _ T5.heap _
    rw [e5]
    exact ⟨rfl, N5⟩
set_option maxRecDepth 65536 in
set_option maxHeartbeats 40000000 in
theorem rm0_84 (l : Launch) (Z : State) (a0 : Array Value) (hw : ∀ d ∈ tables_1, d.before a0 Z = true) (ws : List Jvm.Cond) (p0 : Int32) (p1 : Int32) (p2 : Int32) (p3 : Int32) (p4 : Int32) (a_cache : Addr) (h0 : Heap) (n0 : Nat) (Z0 : n0 ≤ h0.size) (f1 : ¬ ((p4 &&& (1 : Int32)) = (0 : Int32))) (f2 : (p4 &&& (2 : Int32)) = (0 : Int32)) (f3 : (((p4.toUInt32 >>> ((2 : Int32) &&& 31).toUInt32).toInt32) &&& (3 : Int32)) = (2 : Int32)) (f4 : S_0 Z h0 (.int 127)) (f5 : S_1 Z h0 (.ref a_cache)) (f6 : OwnAll Z h0 a_cache "java/lang/Integer") (f7 : E_0 Z h0 a_cache) :
    MetFree l x (head1 (Jvm.Cond.code x code maxLocals ret :: ws) room_1) (fun a U => a = #[(.int p0), (.int p1), (.int p2), (.int p3), (.int p4)] ∧ Z.Warmed39 U.vm ∧ U.heap = h0) (fun _ _ _ _ _ => True) (fun _ U o U' => ∃ v L, o = .returned v ∧ QT n0 v U'.heap L ∧ FrameEnd U o U' L room_1.cells room_1.slots) := by
  refine MetFree.of_bodySF (plainFor_of_name pn_hexwright_board_HexEqualsPinLaw) hisR ?_
  intro p e s m args below meth c s₁ Bd hml0 hP hK
  obtain ⟨rfl, hZ, hh⟩ := hP
  have hx := Bd.exec
  have hby := Bd.bytes
  have hml : c.maxLocals = 11 := hml0
  have hown : s.vm.findClass "hexwright/board/HexEqualsPinLaw" = some m.cls := findClass_of_methodNamed Bd.named
  have hnm := (name_of_methodNamed Bd.named Bd.method).1
  have X0 : Stand p l e room_1 s m #[(.int p0), (.int p1), (.int p2), (.int p3), (.int p4)] below meth c s₁ [] 0 0 := Stand.of_body Bd
  have e0 : s₁.heap = h0 := by rw [← hh, Bd.state]; rfl
  have N0 := Fr.nil n0
  obtain ⟨T1, h1, X1, e1, E1, A1, D1, -, st1⟩ := newO X0 hx hZ hown (tw_0 hw) (tw_1 hw) (tw_2 hw) e0 (g := (mkF m 36 #[.val (.int p0), .val (.int p1), .val (.int p2), .val (.int p3), .val (.int p4), .val (.int p0), .val (.int p3), .val (.int 2), .unset, .unset, .unset] [])) rfl (hb hby at_36) (by decide) (by decide)
  obtain ⟨b81, g1⟩ : ∃ z, z = h0.size := ⟨_, rfl⟩
  rw [← g1] at A1 D1 st1
  have sz_b81 : h0.size ≤ b81 := Nat.le_trans (Nat.le_refl _) (Nat.le_of_eq g1.symm)
  have g_b81 : n0 ≤ b81 := Nat.le_trans Z0 sz_b81
  have KK1 : Keep h0 h1 [] := (Keep.refl h0 []).ext E1
  have F1_15 : F_0 Z h1 b81 (.int 0) := D1 (Or.inr (tw_15 hw)) (ty := .int) (by decide)
  have F1_17 : F_1 Z h1 b81 (.int 0) := D1 (Or.inr (tw_17 hw)) (ty := .int) (by decide)
  -- pc 42: hexwright/board/Hex.<init>
  obtain ⟨_, _, ⟨T2, L2, k2, n2⟩, -, X2, ⟨Lc2, hQ2, l2, y2, z2⟩, st2⟩ := X1.specialBack hx (y := M_1) rfl hown (mvT hZ (tw_3 hw)) (mvT hZ (tw_4 hw)) (mvT hZ (tw_5 hw)) (by decide) (backOf (W := 1) (rm1_3 l Z a0 hw [] b81 p0 p1 h1 n0 (Nat.le_trans Z0 KK1.1) F1_15 A1 g_b81 F1_17) hZ (tw_5 hw) (tw_2 hw) (by decide) (by decide)) (g := (mkF m 42 #[.val (.int p0), .val (.int p1), .val (.int p2), .val (.int p3), .val (.int p4), .val (.int p0), .val (.int p3), .val (.int 2), .unset, .unset, .unset] [(.int p1), (.int p0), (.ref b81), (.ref b81)])) rfl (by rw [hml]; rfl) (Steps.refl _) (a := b81) (argsL := [(.int p0), (.int p1)]) (rest := [(.ref b81)]) (lenOf pd_1 rfl) rfl (by show 2 * 0 + _ ≤ _; exact Nat.le_of_eq rfl) (hb hby at_42) (fun _ _ => ⟨rfl, e1, (by decide : 1 + 0 ≤ _), (by decide : 2 + 0 ≤ _)⟩)
  dsimp only [Pt.U, Pt.locs, Pt.cells, Pt.slots] at X2 l2 y2 z2 st2 hQ2
  subst l2 y2 z2
  obtain ⟨rfl, Nq2, K2, o2_0, o2_1⟩ := hQ2
  have N2 := Fr.app N0 Nq2
  have KK2 : Keep h0 T2.heap [] := KK1.trans K2 (fun x hx => (List.mem_cons.mp hx).elim (fun q => q ▸ (Or.inr sz_b81)) (fun hx => nomatch hx))
  obtain ⟨T3, h3, X3, e3, E3, A3, D3, -, st3⟩ := newO X2 hx hZ hown (tw_0 hw) (tw_1 hw) (tw_2 hw) rfl (g := (mkF m 47 #[.val (.int p0), .val (.int p1), .val (.int p2), .val (.int p3), .val (.int p4), .val (.int p0), .val (.int p3), .val (.int 2), .val (.ref b81), .unset, .unset] [])) rfl (hb hby at_47) (by decide) (by decide)
  obtain ⟨b82, g3⟩ : ∃ z, z = T2.heap.size := ⟨_, rfl⟩
  rw [← g3] at A3 D3 st3
  have sz_b82 : h0.size ≤ b82 := Nat.le_trans KK2.1 (Nat.le_of_eq g3.symm)
  have g_b82 : n0 ≤ b82 := Nat.le_trans Z0 sz_b82
  have KK3 : Keep h0 h3 [] := KK2.ext E3
  have F3_15 : F_0 Z h3 b82 (.int 0) := D3 (Or.inr (tw_15 hw)) (ty := .int) (by decide)
  have F3_17 : F_1 Z h3 b82 (.int 0) := D3 (Or.inr (tw_17 hw)) (ty := .int) (by decide)
  -- pc 55: hexwright/board/Hex.<init>
  obtain ⟨_, _, ⟨T4, L4, k4, n4⟩, -, X4, ⟨Lc4, hQ4, l4, y4, z4⟩, st4⟩ := X3.specialBack hx (y := M_1) rfl hown (mvT hZ (tw_3 hw)) (mvT hZ (tw_4 hw)) (mvT hZ (tw_5 hw)) (by decide) (backOf (W := 1) (rm1_68 l Z a0 hw [] b82 p0 p3 h3 n0 (Nat.le_trans Z0 KK3.1) F3_15 A3 g_b82 F3_17) hZ (tw_5 hw) (tw_2 hw) (by decide) (by decide)) (g := (mkF m 55 #[.val (.int p0), .val (.int p1), .val (.int p2), .val (.int p3), .val (.int p4), .val (.int p0), .val (.int p3), .val (.int 2), .val (.ref b81), .unset, .unset] [(.int p3), (.int p0), (.ref b82), (.ref b82)])) rfl (by rw [hml]; rfl) (Steps.refl _) (a := b82) (argsL := [(.int p0), (.int p3)]) (rest := [(.ref b82)]) (lenOf pd_1 rfl) rfl (by show 2 * 0 + _ ≤ _; exact Nat.le_of_eq rfl) (hb hby at_55) (fun _ _ => ⟨rfl, e3, (by decide : 2 + 0 ≤ _), (by decide : 4 + 0 ≤ _)⟩)
  dsimp only [Pt.U, Pt.locs, Pt.cells, Pt.slots] at X4 l4 y4 z4 st4 hQ4
  subst l4 y4 z4
  obtain ⟨rfl, Nq4, K4, o4_0, o4_1⟩ := hQ4
  have N4 := Fr.app N2 Nq4
  have KK4 : Keep h0 T4.heap [] := KK3.trans K4 (fun x hx => (List.mem_cons.mp hx).elim (fun q => q ▸ (Or.inr sz_b82)) (fun hx => nomatch hx))
  -- pc 144: java/lang/Integer.valueOf
  have u5 : S_0 Z h1 (.int 127) := Sta.ext E1 f4
  have u6 : S_0 Z T2.heap (.int 127) := own_sta_keep u5 K2 (own_ns (Exa.nostat A1) (fun _ q => nomatch q))
  have u7 : S_0 Z h3 (.int 127) := Sta.ext E3 u6
  have u8 : S_0 Z T4.heap (.int 127) := own_sta_keep u7 K4 (own_ns (Exa.nostat A3) (fun _ q => nomatch q))
  have u9 : S_1 Z h1 (.ref a_cache) := Sta.ext E1 f5
  have u10 : S_1 Z T2.heap (.ref a_cache) := own_sta_keep u9 K2 (own_ns (Exa.nostat A1) (fun _ q => nomatch q))
  have u11 : S_1 Z h3 (.ref a_cache) := Sta.ext E3 u10
  have u12 : S_1 Z T4.heap (.ref a_cache) := own_sta_keep u11 K4 (own_ns (Exa.nostat A3) (fun _ q => nomatch q))
  have u13 : OwnAll Z h1 a_cache "java/lang/Integer" := own_all_ext f6 E1
  have ne14 : a_cache ≠ b81 := Nat.ne_of_lt (Nat.lt_of_lt_of_le (Exa.lt f7) (Nat.le_of_eq g1.symm))
  have u15 : OwnAll Z T2.heap a_cache "java/lang/Integer" := own_all_keep u13 K2 (own_notin ne14 List.not_mem_nil)
  have u16 : OwnAll Z h3 a_cache "java/lang/Integer" := own_all_ext u15 E3
  have u17 : E_0 Z h1 a_cache := Exa.ext E1 f7
  have u18 : E_0 Z T2.heap a_cache := Exa.keep u17 K2
  have ne19 : a_cache ≠ b82 := Nat.ne_of_lt (Nat.lt_of_lt_of_le (Exa.lt u18) (Nat.le_of_eq g3.symm))
  have u20 : OwnAll Z T4.heap a_cache "java/lang/Integer" := own_all_keep u16 K4 (own_notin ne19 List.not_mem_nil)
  obtain ⟨_, _, ⟨T21, L21, k21, n21⟩, -, X21, ⟨Lc21, hQ21, l21, y21, z21⟩, st21⟩ := Jvm.LawKit.callS X4 hx (y := M_5) hown (mvT hZ (tw_25 hw)) (mvT hZ (tw_26 hw)) (mvT hZ (tw_27 hw)) (mvT hZ (tw_28 hw)) (by decide) (backOf (W := 1) (rmB_37 l Z a0 hw [] p0 a_cache T4.heap n0 (Nat.le_trans Z0 KK4.1) u8 u12 u20) hZ (tw_28 hw) (tw_27 hw) (by decide) (by decide)) (g := (mkF m 144 #[.val (.int p0), .val (.int p1), .val (.int p2), .val (.int p3), .val (.int p4), .val (.int p0), .val (.int p3), .val (.int 2), .val (.ref b81), .val (.ref b82), .unset] [(.int p0), (.ref b81)])) rfl (by rw [hml]; rfl) (argsL := [(.int p0)]) (rest := [(.ref b81)]) (lenOf pd_4 rfl) rfl (by show 2 * 0 + _ ≤ _; exact Nat.le_of_eq rfl) (hb hby at_144) (fun _ _ => ⟨rfl, rfl, (by decide : 2 + 1 ≤ _), (by decide : 4 + 1 ≤ _)⟩)
  dsimp only [Pt.U, Pt.locs, Pt.cells, Pt.slots] at X21 l21 y21 z21 st21 hQ21
  subst l21 y21 z21
  obtain ⟨bx83, rfl, Nq21, K21, o21_0⟩ := hQ21
  have N21 := Fr.app N4 Nq21
  have KK21 : Keep h0 T21.heap [] := KK4.trans K21 (fun x hx => nomatch hx)
  -- pc 147: hexwright/board/Hex.equals
  have u23 : E_1 Z T2.heap b81 := Exa.keep A1 K2
  have u24 : E_1 Z h3 b81 := Exa.ext E3 u23
  have u25 : E_1 Z T4.heap b81 := Exa.keep u24 K4
  have u26 : E_1 Z T21.heap b81 := Exa.keep u25 K21
  obtain ⟨cq22, kq22, q22a, q22b, q22c⟩ := isOf hZ rfl u26
  obtain ⟨_, _, ⟨T22, L22, k22, n22⟩, -, X22, ⟨Lc22, hQ22, l22, y22, z22⟩, st22⟩ := X21.virtualBack hx (y := M_2) (z := M_2) hown (mvT hZ (tw_18 hw)) (mvT hZ (tw_19 hw)) (notFace_of_selects (args := #[]) (mvT hZ (tw_21 hw))) (mvT hZ (tw_21 hw)) (mvT hZ (tw_20 hw)) (by decide) (backOf (W := 0) (rm4_40 l Z a0 hw [] b81 bx83 T21.heap n0 (Nat.le_trans Z0 KK21.1) o21_0) hZ (tw_22 hw) (tw_2 hw) (by decide) (by decide)) q22a q22c (g := (mkF m 147 #[.val (.int p0), .val (.int p1), .val (.int p2), .val (.int p3), .val (.int p4), .val (.int p0), .val (.int p3), .val (.int 2), .val (.ref b81), .val (.ref b82), .unset] [(.ref bx83), (.ref b81)])) rfl (by rw [hml]; rfl) (Steps.refl _) (argsL := [(.ref bx83)]) (rest := []) (lenOf pd_2 rfl) rfl (by show 2 * 0 + _ ≤ _; exact Nat.le_of_eq rfl) (hb hby at_147) (fun _ _ => ⟨rfl, rfl, (by decide : 3 + 0 ≤ _), (by decide : 5 + 0 ≤ _)⟩)
  dsimp only [Pt.U, Pt.locs, Pt.cells, Pt.slots] at X22 l22 y22 z22 st22 hQ22
  subst l22 y22 z22
  obtain ⟨rfl, Nq22, e22⟩ := hQ22
  have N22 := Fr.app N21 Nq22
  obtain ⟨fs, hr, hrun, hended, hW, hsame⟩ := X22.leave (v := (some (.int 1))) (fun h => by rw [Bd.returns] at h; cases h)
  refine ⟨_, _, castTop (ef0_IIIII m p0 p1 p2 p3 p4) ?_, hrun, hended, _, _, rfl, ?_, ⟨_, rfl⟩, hW, hsame.mono (by decide) (by decide)⟩
  · show Steps p.tables e below (s₁.setTop (mkF m 0 #[.val (.int p0), .val (.int p1), .val (.int p2), .val (.int p3), .val (.int p4), .unset, .unset, .unset, .unset, .unset, .unset] [])) _
    refine XS.iload X0.here hx rfl (hb hby at_0) rfl ?_
    refine XS.iconst X0.here hx rfl (hb hby at_2) ?_
    show Steps p.tables e below (s₁.setTop (mkF m 3 #[.val (.int p0), .val (.int p1), .val (.int p2), .val (.int p3), .val (.int p4), .unset, .unset, .unset, .unset, .unset, .unset] [(.int 1), (.int p4)])) _
    refine XS.iand X0.here hx rfl (hb hby at_3) rfl ?_
    refine XS.ifNo X0.here hx rfl (hb hby at_4) rfl ((if0 _ _).trans (feq (f1 : ¬ ((p4 &&& (1 : Int32)) = (0 : Int32)))).1) ?_
    refine XS.iloadN X0.here hx rfl (hb hby at_7) rfl ?_
    refine XS.goto X0.here hx rfl (pc0 := 8) (pc' := 12) rfl (hb hby at_8) (by decide) (by decide) ?_
    refine XS.istore X0.here hx rfl (hb hby at_12) rfl (l' := #[.val (.int p0), .val (.int p1), .val (.int p2), .val (.int p3), .val (.int p4), .val (.int p0), .unset, .unset, .unset, .unset, .unset]) rfl ?_
    show Steps p.tables e below (s₁.setTop (mkF m 14 #[.val (.int p0), .val (.int p1), .val (.int p2), .val (.int p3), .val (.int p4), .val (.int p0), .unset, .unset, .unset, .unset, .unset] [])) _
    refine XS.iload X0.here hx rfl (hb hby at_14) rfl ?_
    refine XS.iconst X0.here hx rfl (hb hby at_16) ?_
    show Steps p.tables e below (s₁.setTop (mkF m 17 #[.val (.int p0), .val (.int p1), .val (.int p2), .val (.int p3), .val (.int p4), .val (.int p0), .unset, .unset, .unset, .unset, .unset] [(.int 2), (.int p4)])) _
    refine XS.iand X0.here hx rfl (hb hby at_17) rfl ?_
    refine XS.ifYes X0.here hx rfl (pc0 := 18) (pc' := 25) rfl (hb hby at_18) rfl ((if0 _ _).trans (teq (f2 : (p4 &&& (2 : Int32)) = (0 : Int32))).1) (by decide) (by decide) ?_
    refine XS.iloadN X0.here hx rfl (hb hby at_25) rfl ?_
    refine XS.istore X0.here hx rfl (hb hby at_26) rfl (l' := #[.val (.int p0), .val (.int p1), .val (.int p2), .val (.int p3), .val (.int p4), .val (.int p0), .val (.int p3), .unset, .unset, .unset, .unset]) rfl ?_
    refine XS.iload X0.here hx rfl (hb hby at_28) rfl ?_
    show Steps p.tables e below (s₁.setTop (mkF m 30 #[.val (.int p0), .val (.int p1), .val (.int p2), .val (.int p3), .val (.int p4), .val (.int p0), .val (.int p3), .unset, .unset, .unset, .unset] [(.int p4)])) _
    refine XS.iconst X0.here hx rfl (hb hby at_30) ?_
    show Steps p.tables e below (s₁.setTop (mkF m 31 #[.val (.int p0), .val (.int p1), .val (.int p2), .val (.int p3), .val (.int p4), .val (.int p0), .val (.int p3), .unset, .unset, .unset, .unset] [(.int 2), (.int p4)])) _
    refine XS.iushr X0.here hx rfl (hb hby at_31) rfl ?_
    refine XS.iconst X0.here hx rfl (hb hby at_32) ?_
    show Steps p.tables e below (s₁.setTop (mkF m 33 #[.val (.int p0), .val (.int p1), .val (.int p2), .val (.int p3), .val (.int p4), .val (.int p0), .val (.int p3), .unset, .unset, .unset, .unset] [(.int 3), (.int ((p4.toUInt32 >>> ((2 : Int32) &&& 31).toUInt32).toInt32))])) _
    refine XS.iand X0.here hx rfl (hb hby at_33) rfl ?_
    show Steps p.tables e below (s₁.setTop (mkF m 34 #[.val (.int p0), .val (.int p1), .val (.int p2), .val (.int p3), .val (.int p4), .val (.int p0), .val (.int p3), .unset, .unset, .unset, .unset] [(.int (((p4.toUInt32 >>> ((2 : Int32) &&& 31).toUInt32).toInt32) &&& (3 : Int32)))])) _
    rw [f3]
    refine XS.istore X0.here hx rfl (hb hby at_34) rfl (l' := #[.val (.int p0), .val (.int p1), .val (.int p2), .val (.int p3), .val (.int p4), .val (.int p0), .val (.int p3), .val (.int 2), .unset, .unset, .unset]) rfl ?_
    show Steps p.tables e below (s₁.setTop (mkF m 36 #[.val (.int p0), .val (.int p1), .val (.int p2), .val (.int p3), .val (.int p4), .val (.int p0), .val (.int p3), .val (.int 2), .unset, .unset, .unset] [])) _
    refine st1 _ ?_
    refine XS.dup X1.here hx rfl (hb hby at_39) rfl rfl ?_
    refine XS.iloadN X1.here hx rfl (hb hby at_40) rfl ?_
    refine XS.iloadN X1.here hx rfl (hb hby at_41) rfl ?_
    show Steps p.tables e below (T1.setTop (mkF m 42 #[.val (.int p0), .val (.int p1), .val (.int p2), .val (.int p3), .val (.int p4), .val (.int p0), .val (.int p3), .val (.int 2), .unset, .unset, .unset] [(.int p1), (.int p0), (.ref b81), (.ref b81)])) _
    refine st2.trans ?_
    refine XS.astore X2.here hx rfl (hb hby at_45) rfl rfl (l' := #[.val (.int p0), .val (.int p1), .val (.int p2), .val (.int p3), .val (.int p4), .val (.int p0), .val (.int p3), .val (.int 2), .val (.ref b81), .unset, .unset]) rfl ?_
    show Steps p.tables e below (T2.setTop (mkF m 47 #[.val (.int p0), .val (.int p1), .val (.int p2), .val (.int p3), .val (.int p4), .val (.int p0), .val (.int p3), .val (.int 2), .val (.ref b81), .unset, .unset] [])) _
    refine st3 _ ?_
    refine XS.dup X3.here hx rfl (hb hby at_50) rfl rfl ?_
    refine XS.iload X3.here hx rfl (hb hby at_51) rfl ?_
    refine XS.iload X3.here hx rfl (hb hby at_53) rfl ?_
    show Steps p.tables e below (T3.setTop (mkF m 55 #[.val (.int p0), .val (.int p1), .val (.int p2), .val (.int p3), .val (.int p4), .val (.int p0), .val (.int p3), .val (.int 2), .val (.ref b81), .unset, .unset] [(.int p3), (.int p0), (.ref b82), (.ref b82)])) _
    refine st4.trans ?_
    refine XS.astore X4.here hx rfl (hb hby at_58) rfl rfl (l' := #[.val (.int p0), .val (.int p1), .val (.int p2), .val (.int p3), .val (.int p4), .val (.int p0), .val (.int p3), .val (.int 2), .val (.ref b81), .val (.ref b82), .unset]) rfl ?_
    refine XS.iload X4.here hx rfl (hb hby at_60) rfl ?_
    refine XS.ifYes X4.here hx rfl (pc0 := 62) (pc' := 114) rfl (hb hby at_62) rfl (by decide) (by decide) (by decide) ?_
    refine XS.iload X4.here hx rfl (hb hby at_114) rfl ?_
    show Steps p.tables e below (T4.setTop (mkF m 116 #[.val (.int p0), .val (.int p1), .val (.int p2), .val (.int p3), .val (.int p4), .val (.int p0), .val (.int p3), .val (.int 2), .val (.ref b81), .val (.ref b82), .unset] [(.int 2)])) _
    refine XS.iconst X4.here hx rfl (hb hby at_116) ?_
    refine XS.icmpYes X4.here hx rfl (pc0 := 117) (pc' := 135) rfl (hb hby at_117) rfl (by decide) (by decide) (by decide) ?_
    refine XS.iload X4.here hx rfl (hb hby at_135) rfl ?_
    refine XS.iconst X4.here hx rfl (hb hby at_137) ?_
    refine XS.icmpNo X4.here hx rfl (hb hby at_138) rfl (by decide) ?_
    show Steps p.tables e below (T4.setTop (mkF m 141 #[.val (.int p0), .val (.int p1), .val (.int p2), .val (.int p3), .val (.int p4), .val (.int p0), .val (.int p3), .val (.int 2), .val (.ref b81), .val (.ref b82), .unset] [])) _
    refine XS.aload X4.here hx rfl (hb hby at_141) rfl rfl ?_
    refine XS.iloadN X4.here hx rfl (hb hby at_143) rfl ?_
    show Steps p.tables e below (T4.setTop (mkF m 144 #[.val (.int p0), .val (.int p1), .val (.int p2), .val (.int p3), .val (.int p4), .val (.int p0), .val (.int p3), .val (.int 2), .val (.ref b81), .val (.ref b82), .unset] [(.int p0), (.ref b81)])) _
    refine st21 _ ?_
    show Steps p.tables e below (T21.setTop (mkF m 147 #[.val (.int p0), .val (.int p1), .val (.int p2), .val (.int p3), .val (.int p4), .val (.int p0), .val (.int p3), .val (.int 2), .val (.ref b81), .val (.ref b82), .unset] [(.ref bx83), (.ref b81)])) _
    refine st22.trans ?_
    refine XS.ifNo X22.here hx rfl (hb hby at_150) rfl (by decide) ?_
    refine XS.iconst X22.here hx rfl (hb hby at_153) ?_
    refine XS.goto X22.here hx rfl (pc0 := 154) (pc' := 158) rfl (hb hby at_154) (by decide) (by decide) ?_
    show Steps p.tables e below (T22.setTop (mkF m 158 #[.val (.int p0), .val (.int p1), .val (.int p2), .val (.int p3), .val (.int p4), .val (.int p0), .val (.int p3), .val (.int 2), .val (.ref b81), .val (.ref b82), .unset] [(.int 1)])) _
    exact retN X22 hx (t := .boolean) Bd.returns (by simp) (hb hby at_158) hr
  · show QT n0 _ T22.heap _
    rw [e22]
    exact ⟨rfl, N22⟩
set_option maxRecDepth 65536 in
set_option maxHeartbeats 40000000 in
theorem rm0_87 (l : Launch) (Z : State) (a0 : Array Value) (hw : ∀ d ∈ tables_1, d.before a0 Z = true) (ws : List Jvm.Cond) (p0 : Int32) (p1 : Int32) (p2 : Int32) (p3 : Int32) (p4 : Int32) (h0 : Heap) (n0 : Nat) (Z0 : n0 ≤ h0.size) (f1 : ¬ ((p4 &&& (1 : Int32)) = (0 : Int32))) (f2 : (p4 &&& (2 : Int32)) = (0 : Int32)) (f3 : (((p4.toUInt32 >>> ((2 : Int32) &&& 31).toUInt32).toInt32) &&& (3 : Int32)) = (3 : Int32)) :
    MetFree l x (head1 (Jvm.Cond.code x code maxLocals ret :: ws) room_1) (fun a U => a = #[(.int p0), (.int p1), (.int p2), (.int p3), (.int p4)] ∧ Z.Warmed39 U.vm ∧ U.heap = h0) (fun _ _ _ _ _ => True) (fun _ U o U' => ∃ v L, o = .returned v ∧ QT n0 v U'.heap L ∧ FrameEnd U o U' L room_1.cells room_1.slots) := by
  refine MetFree.of_bodySF (plainFor_of_name pn_hexwright_board_HexEqualsPinLaw) hisR ?_
  intro p e s m args below meth c s₁ Bd hml0 hP hK
  obtain ⟨rfl, hZ, hh⟩ := hP
  have hx := Bd.exec
  have hby := Bd.bytes
  have hml : c.maxLocals = 11 := hml0
  have hown : s.vm.findClass "hexwright/board/HexEqualsPinLaw" = some m.cls := findClass_of_methodNamed Bd.named
  have hnm := (name_of_methodNamed Bd.named Bd.method).1
  have X0 : Stand p l e room_1 s m #[(.int p0), (.int p1), (.int p2), (.int p3), (.int p4)] below meth c s₁ [] 0 0 := Stand.of_body Bd
  have e0 : s₁.heap = h0 := by rw [← hh, Bd.state]; rfl
  have N0 := Fr.nil n0
  obtain ⟨T1, h1, X1, e1, E1, A1, D1, -, st1⟩ := newO X0 hx hZ hown (tw_0 hw) (tw_1 hw) (tw_2 hw) e0 (g := (mkF m 36 #[.val (.int p0), .val (.int p1), .val (.int p2), .val (.int p3), .val (.int p4), .val (.int p0), .val (.int p3), .val (.int 3), .unset, .unset, .unset] [])) rfl (hb hby at_36) (by decide) (by decide)
  obtain ⟨b85, g1⟩ : ∃ z, z = h0.size := ⟨_, rfl⟩
  rw [← g1] at A1 D1 st1
  have sz_b85 : h0.size ≤ b85 := Nat.le_trans (Nat.le_refl _) (Nat.le_of_eq g1.symm)
  have g_b85 : n0 ≤ b85 := Nat.le_trans Z0 sz_b85
  have KK1 : Keep h0 h1 [] := (Keep.refl h0 []).ext E1
  have F1_15 : F_0 Z h1 b85 (.int 0) := D1 (Or.inr (tw_15 hw)) (ty := .int) (by decide)
  have F1_17 : F_1 Z h1 b85 (.int 0) := D1 (Or.inr (tw_17 hw)) (ty := .int) (by decide)
  -- pc 42: hexwright/board/Hex.<init>
  obtain ⟨_, _, ⟨T2, L2, k2, n2⟩, -, X2, ⟨Lc2, hQ2, l2, y2, z2⟩, st2⟩ := X1.specialBack hx (y := M_1) rfl hown (mvT hZ (tw_3 hw)) (mvT hZ (tw_4 hw)) (mvT hZ (tw_5 hw)) (by decide) (backOf (W := 1) (rm1_3 l Z a0 hw [] b85 p0 p1 h1 n0 (Nat.le_trans Z0 KK1.1) F1_15 A1 g_b85 F1_17) hZ (tw_5 hw) (tw_2 hw) (by decide) (by decide)) (g := (mkF m 42 #[.val (.int p0), .val (.int p1), .val (.int p2), .val (.int p3), .val (.int p4), .val (.int p0), .val (.int p3), .val (.int 3), .unset, .unset, .unset] [(.int p1), (.int p0), (.ref b85), (.ref b85)])) rfl (by rw [hml]; rfl) (Steps.refl _) (a := b85) (argsL := [(.int p0), (.int p1)]) (rest := [(.ref b85)]) (lenOf pd_1 rfl) rfl (by show 2 * 0 + _ ≤ _; exact Nat.le_of_eq rfl) (hb hby at_42) (fun _ _ => ⟨rfl, e1, (by decide : 1 + 0 ≤ _), (by decide : 2 + 0 ≤ _)⟩)
  dsimp only [Pt.U, Pt.locs, Pt.cells, Pt.slots] at X2 l2 y2 z2 st2 hQ2
  subst l2 y2 z2
  obtain ⟨rfl, Nq2, K2, o2_0, o2_1⟩ := hQ2
  have N2 := Fr.app N0 Nq2
  have KK2 : Keep h0 T2.heap [] := KK1.trans K2 (fun x hx => (List.mem_cons.mp hx).elim (fun q => q ▸ (Or.inr sz_b85)) (fun hx => nomatch hx))
  obtain ⟨T3, h3, X3, e3, E3, A3, D3, -, st3⟩ := newO X2 hx hZ hown (tw_0 hw) (tw_1 hw) (tw_2 hw) rfl (g := (mkF m 47 #[.val (.int p0), .val (.int p1), .val (.int p2), .val (.int p3), .val (.int p4), .val (.int p0), .val (.int p3), .val (.int 3), .val (.ref b85), .unset, .unset] [])) rfl (hb hby at_47) (by decide) (by decide)
  obtain ⟨b86, g3⟩ : ∃ z, z = T2.heap.size := ⟨_, rfl⟩
  rw [← g3] at A3 D3 st3
  have sz_b86 : h0.size ≤ b86 := Nat.le_trans KK2.1 (Nat.le_of_eq g3.symm)
  have g_b86 : n0 ≤ b86 := Nat.le_trans Z0 sz_b86
  have KK3 : Keep h0 h3 [] := KK2.ext E3
  have F3_15 : F_0 Z h3 b86 (.int 0) := D3 (Or.inr (tw_15 hw)) (ty := .int) (by decide)
  have F3_17 : F_1 Z h3 b86 (.int 0) := D3 (Or.inr (tw_17 hw)) (ty := .int) (by decide)
  -- pc 55: hexwright/board/Hex.<init>
  obtain ⟨_, _, ⟨T4, L4, k4, n4⟩, -, X4, ⟨Lc4, hQ4, l4, y4, z4⟩, st4⟩ := X3.specialBack hx (y := M_1) rfl hown (mvT hZ (tw_3 hw)) (mvT hZ (tw_4 hw)) (mvT hZ (tw_5 hw)) (by decide) (backOf (W := 1) (rm1_68 l Z a0 hw [] b86 p0 p3 h3 n0 (Nat.le_trans Z0 KK3.1) F3_15 A3 g_b86 F3_17) hZ (tw_5 hw) (tw_2 hw) (by decide) (by decide)) (g := (mkF m 55 #[.val (.int p0), .val (.int p1), .val (.int p2), .val (.int p3), .val (.int p4), .val (.int p0), .val (.int p3), .val (.int 3), .val (.ref b85), .unset, .unset] [(.int p3), (.int p0), (.ref b86), (.ref b86)])) rfl (by rw [hml]; rfl) (Steps.refl _) (a := b86) (argsL := [(.int p0), (.int p3)]) (rest := [(.ref b86)]) (lenOf pd_1 rfl) rfl (by show 2 * 0 + _ ≤ _; exact Nat.le_of_eq rfl) (hb hby at_55) (fun _ _ => ⟨rfl, e3, (by decide : 2 + 0 ≤ _), (by decide : 4 + 0 ≤ _)⟩)
  dsimp only [Pt.U, Pt.locs, Pt.cells, Pt.slots] at X4 l4 y4 z4 st4 hQ4
  subst l4 y4 z4
  obtain ⟨rfl, Nq4, K4, o4_0, o4_1⟩ := hQ4
  have N4 := Fr.app N2 Nq4
  have KK4 : Keep h0 T4.heap [] := KK3.trans K4 (fun x hx => (List.mem_cons.mp hx).elim (fun q => q ▸ (Or.inr sz_b86)) (fun hx => nomatch hx))
  -- pc 163: hexwright/board/Hex.equals
  have u5 : E_1 Z T2.heap b85 := Exa.keep A1 K2
  have u6 : E_1 Z h3 b85 := Exa.ext E3 u5
  have u7 : E_1 Z T4.heap b85 := Exa.keep u6 K4
  have u8 : F_0 Z h3 b85 (.int p0) := Fld.ext E3 o2_0
  have ne9 : b85 ≠ b86 := Nat.ne_of_lt (Nat.lt_of_lt_of_le (Exa.lt u5) (Nat.le_of_eq g3.symm))
  have u10 : F_0 Z T4.heap b85 (.int p0) := Fld.keep u8 K4 (own_notin ne9 List.not_mem_nil)
  have u11 : F_1 Z h3 b85 (.int p1) := Fld.ext E3 o2_1
  have u12 : F_1 Z T4.heap b85 (.int p1) := Fld.keep u11 K4 (own_notin ne9 List.not_mem_nil)
  obtain ⟨cq13, kq13, q13a, q13b, q13c⟩ := isOf hZ rfl u7
  obtain ⟨_, _, ⟨T13, L13, k13, n13⟩, -, X13, ⟨Lc13, hQ13, l13, y13, z13⟩, st13⟩ := X4.virtualBack hx (y := M_2) (z := M_2) hown (mvT hZ (tw_18 hw)) (mvT hZ (tw_19 hw)) (notFace_of_selects (args := #[]) (mvT hZ (tw_21 hw))) (mvT hZ (tw_21 hw)) (mvT hZ (tw_20 hw)) (by decide) (backOf (W := 0) (rm4_44 l Z a0 hw [] b85 p0 p1 T4.heap n0 (Nat.le_trans Z0 KK4.1) u7 u10 u12) hZ (tw_22 hw) (tw_2 hw) (by decide) (by decide)) q13a q13c (g := (mkF m 163 #[.val (.int p0), .val (.int p1), .val (.int p2), .val (.int p3), .val (.int p4), .val (.int p0), .val (.int p3), .val (.int 3), .val (.ref b85), .val (.ref b86), .unset] [(.ref b85), (.ref b85)])) rfl (by rw [hml]; rfl) (Steps.refl _) (argsL := [(.ref b85)]) (rest := []) (lenOf pd_2 rfl) rfl (by show 2 * 0 + _ ≤ _; exact Nat.le_of_eq rfl) (hb hby at_163) (fun _ _ => ⟨rfl, rfl, (by decide : 2 + 0 ≤ _), (by decide : 4 + 0 ≤ _)⟩)
  dsimp only [Pt.U, Pt.locs, Pt.cells, Pt.slots] at X13 l13 y13 z13 st13 hQ13
  subst l13 y13 z13
  obtain ⟨rfl, Nq13, e13⟩ := hQ13
  have N13 := Fr.app N4 Nq13
  obtain ⟨fs, hr, hrun, hended, hW, hsame⟩ := X13.leave (v := (some (.int 1))) (fun h => by rw [Bd.returns] at h; cases h)
  refine ⟨_, _, castTop (ef0_IIIII m p0 p1 p2 p3 p4) ?_, hrun, hended, _, _, rfl, ?_, ⟨_, rfl⟩, hW, hsame.mono (by decide) (by decide)⟩
  · show Steps p.tables e below (s₁.setTop (mkF m 0 #[.val (.int p0), .val (.int p1), .val (.int p2), .val (.int p3), .val (.int p4), .unset, .unset, .unset, .unset, .unset, .unset] [])) _
    refine XS.iload X0.here hx rfl (hb hby at_0) rfl ?_
    refine XS.iconst X0.here hx rfl (hb hby at_2) ?_
    show Steps p.tables e below (s₁.setTop (mkF m 3 #[.val (.int p0), .val (.int p1), .val (.int p2), .val (.int p3), .val (.int p4), .unset, .unset, .unset, .unset, .unset, .unset] [(.int 1), (.int p4)])) _
    refine XS.iand X0.here hx rfl (hb hby at_3) rfl ?_
    refine XS.ifNo X0.here hx rfl (hb hby at_4) rfl ((if0 _ _).trans (feq (f1 : ¬ ((p4 &&& (1 : Int32)) = (0 : Int32)))).1) ?_
    refine XS.iloadN X0.here hx rfl (hb hby at_7) rfl ?_
    refine XS.goto X0.here hx rfl (pc0 := 8) (pc' := 12) rfl (hb hby at_8) (by decide) (by decide) ?_
    refine XS.istore X0.here hx rfl (hb hby at_12) rfl (l' := #[.val (.int p0), .val (.int p1), .val (.int p2), .val (.int p3), .val (.int p4), .val (.int p0), .unset, .unset, .unset, .unset, .unset]) rfl ?_
    show Steps p.tables e below (s₁.setTop (mkF m 14 #[.val (.int p0), .val (.int p1), .val (.int p2), .val (.int p3), .val (.int p4), .val (.int p0), .unset, .unset, .unset, .unset, .unset] [])) _
    refine XS.iload X0.here hx rfl (hb hby at_14) rfl ?_
    refine XS.iconst X0.here hx rfl (hb hby at_16) ?_
    show Steps p.tables e below (s₁.setTop (mkF m 17 #[.val (.int p0), .val (.int p1), .val (.int p2), .val (.int p3), .val (.int p4), .val (.int p0), .unset, .unset, .unset, .unset, .unset] [(.int 2), (.int p4)])) _
    refine XS.iand X0.here hx rfl (hb hby at_17) rfl ?_
    refine XS.ifYes X0.here hx rfl (pc0 := 18) (pc' := 25) rfl (hb hby at_18) rfl ((if0 _ _).trans (teq (f2 : (p4 &&& (2 : Int32)) = (0 : Int32))).1) (by decide) (by decide) ?_
    refine XS.iloadN X0.here hx rfl (hb hby at_25) rfl ?_
    refine XS.istore X0.here hx rfl (hb hby at_26) rfl (l' := #[.val (.int p0), .val (.int p1), .val (.int p2), .val (.int p3), .val (.int p4), .val (.int p0), .val (.int p3), .unset, .unset, .unset, .unset]) rfl ?_
    refine XS.iload X0.here hx rfl (hb hby at_28) rfl ?_
    show Steps p.tables e below (s₁.setTop (mkF m 30 #[.val (.int p0), .val (.int p1), .val (.int p2), .val (.int p3), .val (.int p4), .val (.int p0), .val (.int p3), .unset, .unset, .unset, .unset] [(.int p4)])) _
    refine XS.iconst X0.here hx rfl (hb hby at_30) ?_
    show Steps p.tables e below (s₁.setTop (mkF m 31 #[.val (.int p0), .val (.int p1), .val (.int p2), .val (.int p3), .val (.int p4), .val (.int p0), .val (.int p3), .unset, .unset, .unset, .unset] [(.int 2), (.int p4)])) _
    refine XS.iushr X0.here hx rfl (hb hby at_31) rfl ?_
    refine XS.iconst X0.here hx rfl (hb hby at_32) ?_
    show Steps p.tables e below (s₁.setTop (mkF m 33 #[.val (.int p0), .val (.int p1), .val (.int p2), .val (.int p3), .val (.int p4), .val (.int p0), .val (.int p3), .unset, .unset, .unset, .unset] [(.int 3), (.int ((p4.toUInt32 >>> ((2 : Int32) &&& 31).toUInt32).toInt32))])) _
    refine XS.iand X0.here hx rfl (hb hby at_33) rfl ?_
    show Steps p.tables e below (s₁.setTop (mkF m 34 #[.val (.int p0), .val (.int p1), .val (.int p2), .val (.int p3), .val (.int p4), .val (.int p0), .val (.int p3), .unset, .unset, .unset, .unset] [(.int (((p4.toUInt32 >>> ((2 : Int32) &&& 31).toUInt32).toInt32) &&& (3 : Int32)))])) _
    rw [f3]
    refine XS.istore X0.here hx rfl (hb hby at_34) rfl (l' := #[.val (.int p0), .val (.int p1), .val (.int p2), .val (.int p3), .val (.int p4), .val (.int p0), .val (.int p3), .val (.int 3), .unset, .unset, .unset]) rfl ?_
    show Steps p.tables e below (s₁.setTop (mkF m 36 #[.val (.int p0), .val (.int p1), .val (.int p2), .val (.int p3), .val (.int p4), .val (.int p0), .val (.int p3), .val (.int 3), .unset, .unset, .unset] [])) _
    refine st1 _ ?_
    refine XS.dup X1.here hx rfl (hb hby at_39) rfl rfl ?_
    refine XS.iloadN X1.here hx rfl (hb hby at_40) rfl ?_
    refine XS.iloadN X1.here hx rfl (hb hby at_41) rfl ?_
    show Steps p.tables e below (T1.setTop (mkF m 42 #[.val (.int p0), .val (.int p1), .val (.int p2), .val (.int p3), .val (.int p4), .val (.int p0), .val (.int p3), .val (.int 3), .unset, .unset, .unset] [(.int p1), (.int p0), (.ref b85), (.ref b85)])) _
    refine st2.trans ?_
    refine XS.astore X2.here hx rfl (hb hby at_45) rfl rfl (l' := #[.val (.int p0), .val (.int p1), .val (.int p2), .val (.int p3), .val (.int p4), .val (.int p0), .val (.int p3), .val (.int 3), .val (.ref b85), .unset, .unset]) rfl ?_
    show Steps p.tables e below (T2.setTop (mkF m 47 #[.val (.int p0), .val (.int p1), .val (.int p2), .val (.int p3), .val (.int p4), .val (.int p0), .val (.int p3), .val (.int 3), .val (.ref b85), .unset, .unset] [])) _
    refine st3 _ ?_
    refine XS.dup X3.here hx rfl (hb hby at_50) rfl rfl ?_
    refine XS.iload X3.here hx rfl (hb hby at_51) rfl ?_
    refine XS.iload X3.here hx rfl (hb hby at_53) rfl ?_
    show Steps p.tables e below (T3.setTop (mkF m 55 #[.val (.int p0), .val (.int p1), .val (.int p2), .val (.int p3), .val (.int p4), .val (.int p0), .val (.int p3), .val (.int 3), .val (.ref b85), .unset, .unset] [(.int p3), (.int p0), (.ref b86), (.ref b86)])) _
    refine st4.trans ?_
    refine XS.astore X4.here hx rfl (hb hby at_58) rfl rfl (l' := #[.val (.int p0), .val (.int p1), .val (.int p2), .val (.int p3), .val (.int p4), .val (.int p0), .val (.int p3), .val (.int 3), .val (.ref b85), .val (.ref b86), .unset]) rfl ?_
    refine XS.iload X4.here hx rfl (hb hby at_60) rfl ?_
    refine XS.ifYes X4.here hx rfl (pc0 := 62) (pc' := 114) rfl (hb hby at_62) rfl (by decide) (by decide) (by decide) ?_
    refine XS.iload X4.here hx rfl (hb hby at_114) rfl ?_
    show Steps p.tables e below (T4.setTop (mkF m 116 #[.val (.int p0), .val (.int p1), .val (.int p2), .val (.int p3), .val (.int p4), .val (.int p0), .val (.int p3), .val (.int 3), .val (.ref b85), .val (.ref b86), .unset] [(.int 3)])) _
    refine XS.iconst X4.here hx rfl (hb hby at_116) ?_
    refine XS.icmpYes X4.here hx rfl (pc0 := 117) (pc' := 135) rfl (hb hby at_117) rfl (by decide) (by decide) (by decide) ?_
    refine XS.iload X4.here hx rfl (hb hby at_135) rfl ?_
    refine XS.iconst X4.here hx rfl (hb hby at_137) ?_
    refine XS.icmpYes X4.here hx rfl (pc0 := 138) (pc' := 159) rfl (hb hby at_138) rfl (by decide) (by decide) (by decide) ?_
    show Steps p.tables e below (T4.setTop (mkF m 159 #[.val (.int p0), .val (.int p1), .val (.int p2), .val (.int p3), .val (.int p4), .val (.int p0), .val (.int p3), .val (.int 3), .val (.ref b85), .val (.ref b86), .unset] [])) _
    refine XS.aload X4.here hx rfl (hb hby at_159) rfl rfl ?_
    refine XS.aload X4.here hx rfl (hb hby at_161) rfl rfl ?_
    show Steps p.tables e below (T4.setTop (mkF m 163 #[.val (.int p0), .val (.int p1), .val (.int p2), .val (.int p3), .val (.int p4), .val (.int p0), .val (.int p3), .val (.int 3), .val (.ref b85), .val (.ref b86), .unset] [(.ref b85), (.ref b85)])) _
    refine st13.trans ?_
    show Steps p.tables e below (T13.setTop (mkF m 166 #[.val (.int p0), .val (.int p1), .val (.int p2), .val (.int p3), .val (.int p4), .val (.int p0), .val (.int p3), .val (.int 3), .val (.ref b85), .val (.ref b86), .unset] [(.int 1)])) _
    exact retN X13 hx (t := .boolean) Bd.returns (by simp) (hb hby at_166) hr
  · show QT n0 _ T13.heap _
    rw [e13]
    exact ⟨rfl, N13⟩
set_option maxRecDepth 65536 in
set_option maxHeartbeats 40000000 in
theorem rm4_90 (l : Launch) (Z : State) (a0 : Array Value) (hw : ∀ d ∈ tables_1, d.before a0 Z = true) (ws : List Jvm.Cond) (c0_a : Addr) (c1_a : Addr) (p0 : Int32) (p1 : Int32) (h0 : Heap) (n0 : Nat) (Z0 : n0 ≤ h0.size) (f1 : E_1 Z h0 c1_a) (f2 : F_0 Z h0 c1_a (.int p0)) (f3 : F_0 Z h0 c0_a (.int p0)) (f4 : F_1 Z h0 c1_a (.int p1)) (f5 : F_1 Z h0 c0_a (.int p1)) :
    MetFree l M_2 (head1 (Jvm.Cond.code M_2 prog_3_method_4_code 3 (some .boolean) :: ws) R_0_0_0_0) (fun a U => a = #[(.ref c0_a), (.ref c1_a)] ∧ Z.Warmed39 U.vm ∧ U.heap = h0) (fun _ _ _ _ _ => True) (fun _ U o U' => ∃ v L, o = .returned v ∧ QP (some (.int 1)) h0 n0 v U'.heap L ∧ FrameEnd U o U' L R_0_0_0_0.cells R_0_0_0_0.slots) := by
  refine MetFree.of_bodySF (plainFor_of_name pn_hexwright_board_Hex) hisR ?_
  intro p e s m args below meth c s₁ Bd hml0 hP hK
  obtain ⟨rfl, hZ, hh⟩ := hP
  have hx := Bd.exec
  have hby := Bd.bytes
  have hml : c.maxLocals = 3 := hml0
  have hown : s.vm.findClass "hexwright/board/Hex" = some m.cls := findClass_of_methodNamed Bd.named
  have hnm := (name_of_methodNamed Bd.named Bd.method).1
  have X0 : Stand p l e R_0_0_0_0 s m #[(.ref c0_a), (.ref c1_a)] below meth c s₁ [] 0 0 := Stand.of_body Bd
  have e0 : s₁.heap = h0 := by rw [← hh, Bd.state]; rfl
  have N0 := Fr.nil n0
  obtain ⟨T1, X1, e1, st1⟩ := instY X0 hx hZ hown (tw_23 hw) e0 (Ins.self f1) (g := (mkF m 1 #[.val (.ref c0_a), .val (.ref c1_a), .unset] [(.ref c1_a)])) rfl rfl (hb hby d4_1)
  obtain ⟨T2, X2, e2, st2⟩ := castY X1 hx hZ hown (tw_23 hw) e1 (Ins.self f1) (g := (mkF m 8 #[.val (.ref c0_a), .val (.ref c1_a), .unset] [(.ref c1_a)])) rfl rfl (hb hby d4_8)
  obtain ⟨T3, X3, e3, st3⟩ := getF X2 hx hZ hown (host := "") (Or.inl (tw_14 hw)) Via.refl e2 f2 (g := (mkF m 13 #[.val (.ref c0_a), .val (.ref c1_a), .val (.ref c1_a)] [(.ref c1_a)])) rfl rfl (hb hby d4_13)
  obtain ⟨T4, X4, e4, st4⟩ := getF X3 hx hZ hown (host := "") (Or.inl (tw_14 hw)) Via.refl e3 f3 (g := (mkF m 17 #[.val (.ref c0_a), .val (.ref c1_a), .val (.ref c1_a)] [(.ref c0_a), (.int p0)])) rfl rfl (hb hby d4_17)
  obtain ⟨T5, X5, e5, st5⟩ := getF X4 hx hZ hown (host := "") (Or.inl (tw_16 hw)) Via.refl e4 f4 (g := (mkF m 24 #[.val (.ref c0_a), .val (.ref c1_a), .val (.ref c1_a)] [(.ref c1_a)])) rfl rfl (hb hby d4_24)
  obtain ⟨T6, X6, e6, st6⟩ := getF X5 hx hZ hown (host := "") (Or.inl (tw_16 hw)) Via.refl e5 f5 (g := (mkF m 28 #[.val (.ref c0_a), .val (.ref c1_a), .val (.ref c1_a)] [(.ref c0_a), (.int p1)])) rfl rfl (hb hby d4_28)
  obtain ⟨fs, hr, hrun, hended, hW, hsame⟩ := X6.leave (v := (some (.int 1))) (fun h => by rw [Bd.returns] at h; cases h)
  refine ⟨_, _, castTop (ef4_RR m c0_a c1_a) ?_, hrun, hended, _, _, rfl, ?_, ⟨_, rfl⟩, hW, hsame.mono (by decide) (by decide)⟩
  · show Steps p.tables e below (s₁.setTop (mkF m 0 #[.val (.ref c0_a), .val (.ref c1_a), .unset] [])) _
    refine XS.aloadN X0.here hx rfl (hb hby d4_0) rfl rfl ?_
    show Steps p.tables e below (s₁.setTop (mkF m 1 #[.val (.ref c0_a), .val (.ref c1_a), .unset] [(.ref c1_a)])) _
    refine st1 _ ?_
    refine XS.ifNo X1.here hx rfl (hb hby d4_4) rfl (by decide) ?_
    refine XS.aloadN X1.here hx rfl (hb hby d4_7) rfl rfl ?_
    show Steps p.tables e below (T1.setTop (mkF m 8 #[.val (.ref c0_a), .val (.ref c1_a), .unset] [(.ref c1_a)])) _
    refine st2 _ ?_
    refine XS.astoreN X2.here hx rfl (hb hby d4_11) rfl rfl (l' := #[.val (.ref c0_a), .val (.ref c1_a), .val (.ref c1_a)]) rfl ?_
    refine XS.aloadN X2.here hx rfl (hb hby d4_12) rfl rfl ?_
    show Steps p.tables e below (T2.setTop (mkF m 13 #[.val (.ref c0_a), .val (.ref c1_a), .val (.ref c1_a)] [(.ref c1_a)])) _
    refine st3 _ ?_
    refine XS.aloadN X3.here hx rfl (hb hby d4_16) rfl rfl ?_
    show Steps p.tables e below (T3.setTop (mkF m 17 #[.val (.ref c0_a), .val (.ref c1_a), .val (.ref c1_a)] [(.ref c0_a), (.int p0)])) _
    refine st4 _ ?_
    refine XS.icmpNo X4.here hx rfl (hb hby d4_20) rfl (teq (rfl : p0 = p0)).2 ?_
    refine XS.aloadN X4.here hx rfl (hb hby d4_23) rfl rfl ?_
    show Steps p.tables e below (T4.setTop (mkF m 24 #[.val (.ref c0_a), .val (.ref c1_a), .val (.ref c1_a)] [(.ref c1_a)])) _
    refine st5 _ ?_
    refine XS.aloadN X5.here hx rfl (hb hby d4_27) rfl rfl ?_
    show Steps p.tables e below (T5.setTop (mkF m 28 #[.val (.ref c0_a), .val (.ref c1_a), .val (.ref c1_a)] [(.ref c0_a), (.int p1)])) _
    refine st6 _ ?_
    refine XS.icmpNo X6.here hx rfl (hb hby d4_31) rfl (teq (rfl : p1 = p1)).2 ?_
    refine XS.iconst X6.here hx rfl (hb hby d4_34) ?_
    refine XS.goto X6.here hx rfl (pc0 := 35) (pc' := 39) rfl (hb hby d4_35) (by decide) (by decide) ?_
    show Steps p.tables e below (T6.setTop (mkF m 39 #[.val (.ref c0_a), .val (.ref c1_a), .val (.ref c1_a)] [(.int 1)])) _
    exact retN X6 hx (t := .boolean) Bd.returns (by simp) (hb hby d4_39) hr
  · show QP (some (.int 1)) h0 n0 _ T6.heap _
    rw [e6]
    exact ⟨rfl, N0, rfl⟩
set_option maxRecDepth 65536 in
set_option maxHeartbeats 40000000 in
theorem rm0_91 (l : Launch) (Z : State) (a0 : Array Value) (hw : ∀ d ∈ tables_1, d.before a0 Z = true) (ws : List Jvm.Cond) (p0 : Int32) (p1 : Int32) (p2 : Int32) (p3 : Int32) (p4 : Int32) (h0 : Heap) (n0 : Nat) (Z0 : n0 ≤ h0.size) (f1 : ¬ ((p4 &&& (1 : Int32)) = (0 : Int32))) (f2 : ¬ ((p4 &&& (2 : Int32)) = (0 : Int32))) (f3 : (((p4.toUInt32 >>> ((2 : Int32) &&& 31).toUInt32).toInt32) &&& (3 : Int32)) = (0 : Int32)) :
    MetFree l x (head1 (Jvm.Cond.code x code maxLocals ret :: ws) room_1) (fun a U => a = #[(.int p0), (.int p1), (.int p2), (.int p3), (.int p4)] ∧ Z.Warmed39 U.vm ∧ U.heap = h0) (fun _ _ _ _ _ => True) (fun _ U o U' => ∃ v L, o = .returned v ∧ QT n0 v U'.heap L ∧ FrameEnd U o U' L room_1.cells room_1.slots) := by
  refine MetFree.of_bodySF (plainFor_of_name pn_hexwright_board_HexEqualsPinLaw) hisR ?_
  intro p e s m args below meth c s₁ Bd hml0 hP hK
  obtain ⟨rfl, hZ, hh⟩ := hP
  have hx := Bd.exec
  have hby := Bd.bytes
  have hml : c.maxLocals = 11 := hml0
  have hown : s.vm.findClass "hexwright/board/HexEqualsPinLaw" = some m.cls := findClass_of_methodNamed Bd.named
  have hnm := (name_of_methodNamed Bd.named Bd.method).1
  have X0 : Stand p l e room_1 s m #[(.int p0), (.int p1), (.int p2), (.int p3), (.int p4)] below meth c s₁ [] 0 0 := Stand.of_body Bd
  have e0 : s₁.heap = h0 := by rw [← hh, Bd.state]; rfl
  have N0 := Fr.nil n0
  obtain ⟨T1, h1, X1, e1, E1, A1, D1, -, st1⟩ := newO X0 hx hZ hown (tw_0 hw) (tw_1 hw) (tw_2 hw) e0 (g := (mkF m 36 #[.val (.int p0), .val (.int p1), .val (.int p2), .val (.int p3), .val (.int p4), .val (.int p0), .val (.int p1), .val (.int 0), .unset, .unset, .unset] [])) rfl (hb hby at_36) (by decide) (by decide)
  obtain ⟨b88, g1⟩ : ∃ z, z = h0.size := ⟨_, rfl⟩
  rw [← g1] at A1 D1 st1
  have sz_b88 : h0.size ≤ b88 := Nat.le_trans (Nat.le_refl _) (Nat.le_of_eq g1.symm)
  have g_b88 : n0 ≤ b88 := Nat.le_trans Z0 sz_b88
  have KK1 : Keep h0 h1 [] := (Keep.refl h0 []).ext E1
  have F1_15 : F_0 Z h1 b88 (.int 0) := D1 (Or.inr (tw_15 hw)) (ty := .int) (by decide)
  have F1_17 : F_1 Z h1 b88 (.int 0) := D1 (Or.inr (tw_17 hw)) (ty := .int) (by decide)
  -- pc 42: hexwright/board/Hex.<init>
  obtain ⟨_, _, ⟨T2, L2, k2, n2⟩, -, X2, ⟨Lc2, hQ2, l2, y2, z2⟩, st2⟩ := X1.specialBack hx (y := M_1) rfl hown (mvT hZ (tw_3 hw)) (mvT hZ (tw_4 hw)) (mvT hZ (tw_5 hw)) (by decide) (backOf (W := 1) (rm1_3 l Z a0 hw [] b88 p0 p1 h1 n0 (Nat.le_trans Z0 KK1.1) F1_15 A1 g_b88 F1_17) hZ (tw_5 hw) (tw_2 hw) (by decide) (by decide)) (g := (mkF m 42 #[.val (.int p0), .val (.int p1), .val (.int p2), .val (.int p3), .val (.int p4), .val (.int p0), .val (.int p1), .val (.int 0), .unset, .unset, .unset] [(.int p1), (.int p0), (.ref b88), (.ref b88)])) rfl (by rw [hml]; rfl) (Steps.refl _) (a := b88) (argsL := [(.int p0), (.int p1)]) (rest := [(.ref b88)]) (lenOf pd_1 rfl) rfl (by show 2 * 0 + _ ≤ _; exact Nat.le_of_eq rfl) (hb hby at_42) (fun _ _ => ⟨rfl, e1, (by decide : 1 + 0 ≤ _), (by decide : 2 + 0 ≤ _)⟩)
  dsimp only [Pt.U, Pt.locs, Pt.cells, Pt.slots] at X2 l2 y2 z2 st2 hQ2
  subst l2 y2 z2
  obtain ⟨rfl, Nq2, K2, o2_0, o2_1⟩ := hQ2
  have N2 := Fr.app N0 Nq2
  have KK2 : Keep h0 T2.heap [] := KK1.trans K2 (fun x hx => (List.mem_cons.mp hx).elim (fun q => q ▸ (Or.inr sz_b88)) (fun hx => nomatch hx))
  obtain ⟨T3, h3, X3, e3, E3, A3, D3, -, st3⟩ := newO X2 hx hZ hown (tw_0 hw) (tw_1 hw) (tw_2 hw) rfl (g := (mkF m 47 #[.val (.int p0), .val (.int p1), .val (.int p2), .val (.int p3), .val (.int p4), .val (.int p0), .val (.int p1), .val (.int 0), .val (.ref b88), .unset, .unset] [])) rfl (hb hby at_47) (by decide) (by decide)
  obtain ⟨b89, g3⟩ : ∃ z, z = T2.heap.size := ⟨_, rfl⟩
  rw [← g3] at A3 D3 st3
  have sz_b89 : h0.size ≤ b89 := Nat.le_trans KK2.1 (Nat.le_of_eq g3.symm)
  have g_b89 : n0 ≤ b89 := Nat.le_trans Z0 sz_b89
  have KK3 : Keep h0 h3 [] := KK2.ext E3
  have F3_15 : F_0 Z h3 b89 (.int 0) := D3 (Or.inr (tw_15 hw)) (ty := .int) (by decide)
  have F3_17 : F_1 Z h3 b89 (.int 0) := D3 (Or.inr (tw_17 hw)) (ty := .int) (by decide)
  -- pc 55: hexwright/board/Hex.<init>
  obtain ⟨_, _, ⟨T4, L4, k4, n4⟩, -, X4, ⟨Lc4, hQ4, l4, y4, z4⟩, st4⟩ := X3.specialBack hx (y := M_1) rfl hown (mvT hZ (tw_3 hw)) (mvT hZ (tw_4 hw)) (mvT hZ (tw_5 hw)) (by decide) (backOf (W := 1) (rm1_3 l Z a0 hw [] b89 p0 p1 h3 n0 (Nat.le_trans Z0 KK3.1) F3_15 A3 g_b89 F3_17) hZ (tw_5 hw) (tw_2 hw) (by decide) (by decide)) (g := (mkF m 55 #[.val (.int p0), .val (.int p1), .val (.int p2), .val (.int p3), .val (.int p4), .val (.int p0), .val (.int p1), .val (.int 0), .val (.ref b88), .unset, .unset] [(.int p1), (.int p0), (.ref b89), (.ref b89)])) rfl (by rw [hml]; rfl) (Steps.refl _) (a := b89) (argsL := [(.int p0), (.int p1)]) (rest := [(.ref b89)]) (lenOf pd_1 rfl) rfl (by show 2 * 0 + _ ≤ _; exact Nat.le_of_eq rfl) (hb hby at_55) (fun _ _ => ⟨rfl, e3, (by decide : 2 + 0 ≤ _), (by decide : 4 + 0 ≤ _)⟩)
  dsimp only [Pt.U, Pt.locs, Pt.cells, Pt.slots] at X4 l4 y4 z4 st4 hQ4
  subst l4 y4 z4
  obtain ⟨rfl, Nq4, K4, o4_0, o4_1⟩ := hQ4
  have N4 := Fr.app N2 Nq4
  have KK4 : Keep h0 T4.heap [] := KK3.trans K4 (fun x hx => (List.mem_cons.mp hx).elim (fun q => q ▸ (Or.inr sz_b89)) (fun hx => nomatch hx))
  -- pc 88: hexwright/board/Hex.equals
  have u5 : E_1 Z T4.heap b89 := Exa.keep A3 K4
  have u6 : F_0 Z h3 b88 (.int p0) := Fld.ext E3 o2_0
  have u7 : E_1 Z T2.heap b88 := Exa.keep A1 K2
  have ne8 : b88 ≠ b89 := Nat.ne_of_lt (Nat.lt_of_lt_of_le (Exa.lt u7) (Nat.le_of_eq g3.symm))
  have u9 : F_0 Z T4.heap b88 (.int p0) := Fld.keep u6 K4 (own_notin ne8 List.not_mem_nil)
  have u10 : F_1 Z h3 b88 (.int p1) := Fld.ext E3 o2_1
  have u11 : F_1 Z T4.heap b88 (.int p1) := Fld.keep u10 K4 (own_notin ne8 List.not_mem_nil)
  have u13 : E_1 Z h3 b88 := Exa.ext E3 u7
  have u14 : E_1 Z T4.heap b88 := Exa.keep u13 K4
  obtain ⟨cq12, kq12, q12a, q12b, q12c⟩ := isOf hZ rfl u14
  obtain ⟨_, _, ⟨T12, L12, k12, n12⟩, -, X12, ⟨Lc12, hQ12, l12, y12, z12⟩, st12⟩ := X4.virtualBack hx (y := M_2) (z := M_2) hown (mvT hZ (tw_18 hw)) (mvT hZ (tw_19 hw)) (notFace_of_selects (args := #[]) (mvT hZ (tw_21 hw))) (mvT hZ (tw_21 hw)) (mvT hZ (tw_20 hw)) (by decide) (backOf (W := 0) (rm4_90 l Z a0 hw [] b88 b89 p0 p1 T4.heap n0 (Nat.le_trans Z0 KK4.1) u5 o4_0 u9 o4_1 u11) hZ (tw_22 hw) (tw_2 hw) (by decide) (by decide)) q12a q12c (g := (mkF m 88 #[.val (.int p0), .val (.int p1), .val (.int p2), .val (.int p3), .val (.int p4), .val (.int p0), .val (.int p1), .val (.int 0), .val (.ref b88), .val (.ref b89), .val (.int 1)] [(.ref b89), (.ref b88)])) rfl (by rw [hml]; rfl) (Steps.refl _) (argsL := [(.ref b89)]) (rest := []) (lenOf pd_2 rfl) rfl (by show 2 * 0 + _ ≤ _; exact Nat.le_of_eq rfl) (hb hby at_88) (fun _ _ => ⟨rfl, rfl, (by decide : 2 + 0 ≤ _), (by decide : 4 + 0 ≤ _)⟩)
  dsimp only [Pt.U, Pt.locs, Pt.cells, Pt.slots] at X12 l12 y12 z12 st12 hQ12
  subst l12 y12 z12
  obtain ⟨rfl, Nq12, e12⟩ := hQ12
  have N12 := Fr.app N4 Nq12
  -- pc 100: hexwright/board/Hex.equals
  obtain ⟨cq15, kq15, q15a, q15b, q15c⟩ := isOf hZ e12 u5
  obtain ⟨_, _, ⟨T15, L15, k15, n15⟩, -, X15, ⟨Lc15, hQ15, l15, y15, z15⟩, st15⟩ := X12.virtualBack hx (y := M_2) (z := M_2) hown (mvT hZ (tw_18 hw)) (mvT hZ (tw_19 hw)) (notFace_of_selects (args := #[]) (mvT hZ (tw_21 hw))) (mvT hZ (tw_21 hw)) (mvT hZ (tw_20 hw)) (by decide) (backOf (W := 0) (rm4_90 l Z a0 hw [] b89 b88 p0 p1 T4.heap n0 (Nat.le_trans Z0 KK4.1) u14 u9 o4_0 u11 o4_1) hZ (tw_22 hw) (tw_2 hw) (by decide) (by decide)) q15a q15c (g := (mkF m 100 #[.val (.int p0), .val (.int p1), .val (.int p2), .val (.int p3), .val (.int p4), .val (.int p0), .val (.int p1), .val (.int 0), .val (.ref b88), .val (.ref b89), .val (.int 1)] [(.ref b88), (.ref b89)])) rfl (by rw [hml]; rfl) (Steps.refl _) (argsL := [(.ref b88)]) (rest := []) (lenOf pd_2 rfl) rfl (by show 2 * 0 + _ ≤ _; exact Nat.le_of_eq rfl) (hb hby at_100) (fun _ _ => ⟨rfl, e12, (by decide : 2 + 0 ≤ _), (by decide : 4 + 0 ≤ _)⟩)
  dsimp only [Pt.U, Pt.locs, Pt.cells, Pt.slots] at X15 l15 y15 z15 st15 hQ15
  subst l15 y15 z15
  obtain ⟨rfl, Nq15, e15⟩ := hQ15
  have N15 := Fr.app N12 Nq15
  obtain ⟨fs, hr, hrun, hended, hW, hsame⟩ := X15.leave (v := (some (.int 1))) (fun h => by rw [Bd.returns] at h; cases h)
  refine ⟨_, _, castTop (ef0_IIIII m p0 p1 p2 p3 p4) ?_, hrun, hended, _, _, rfl, ?_, ⟨_, rfl⟩, hW, hsame.mono (by decide) (by decide)⟩
  · show Steps p.tables e below (s₁.setTop (mkF m 0 #[.val (.int p0), .val (.int p1), .val (.int p2), .val (.int p3), .val (.int p4), .unset, .unset, .unset, .unset, .unset, .unset] [])) _
    refine XS.iload X0.here hx rfl (hb hby at_0) rfl ?_
    refine XS.iconst X0.here hx rfl (hb hby at_2) ?_
    show Steps p.tables e below (s₁.setTop (mkF m 3 #[.val (.int p0), .val (.int p1), .val (.int p2), .val (.int p3), .val (.int p4), .unset, .unset, .unset, .unset, .unset, .unset] [(.int 1), (.int p4)])) _
    refine XS.iand X0.here hx rfl (hb hby at_3) rfl ?_
    refine XS.ifNo X0.here hx rfl (hb hby at_4) rfl ((if0 _ _).trans (feq (f1 : ¬ ((p4 &&& (1 : Int32)) = (0 : Int32)))).1) ?_
    refine XS.iloadN X0.here hx rfl (hb hby at_7) rfl ?_
    refine XS.goto X0.here hx rfl (pc0 := 8) (pc' := 12) rfl (hb hby at_8) (by decide) (by decide) ?_
    refine XS.istore X0.here hx rfl (hb hby at_12) rfl (l' := #[.val (.int p0), .val (.int p1), .val (.int p2), .val (.int p3), .val (.int p4), .val (.int p0), .unset, .unset, .unset, .unset, .unset]) rfl ?_
    show Steps p.tables e below (s₁.setTop (mkF m 14 #[.val (.int p0), .val (.int p1), .val (.int p2), .val (.int p3), .val (.int p4), .val (.int p0), .unset, .unset, .unset, .unset, .unset] [])) _
    refine XS.iload X0.here hx rfl (hb hby at_14) rfl ?_
    refine XS.iconst X0.here hx rfl (hb hby at_16) ?_
    show Steps p.tables e below (s₁.setTop (mkF m 17 #[.val (.int p0), .val (.int p1), .val (.int p2), .val (.int p3), .val (.int p4), .val (.int p0), .unset, .unset, .unset, .unset, .unset] [(.int 2), (.int p4)])) _
    refine XS.iand X0.here hx rfl (hb hby at_17) rfl ?_
    refine XS.ifNo X0.here hx rfl (hb hby at_18) rfl ((if0 _ _).trans (feq (f2 : ¬ ((p4 &&& (2 : Int32)) = (0 : Int32)))).1) ?_
    refine XS.iloadN X0.here hx rfl (hb hby at_21) rfl ?_
    refine XS.goto X0.here hx rfl (pc0 := 22) (pc' := 26) rfl (hb hby at_22) (by decide) (by decide) ?_
    refine XS.istore X0.here hx rfl (hb hby at_26) rfl (l' := #[.val (.int p0), .val (.int p1), .val (.int p2), .val (.int p3), .val (.int p4), .val (.int p0), .val (.int p1), .unset, .unset, .unset, .unset]) rfl ?_
    show Steps p.tables e below (s₁.setTop (mkF m 28 #[.val (.int p0), .val (.int p1), .val (.int p2), .val (.int p3), .val (.int p4), .val (.int p0), .val (.int p1), .unset, .unset, .unset, .unset] [])) _
    refine XS.iload X0.here hx rfl (hb hby at_28) rfl ?_
    refine XS.iconst X0.here hx rfl (hb hby at_30) ?_
    show Steps p.tables e below (s₁.setTop (mkF m 31 #[.val (.int p0), .val (.int p1), .val (.int p2), .val (.int p3), .val (.int p4), .val (.int p0), .val (.int p1), .unset, .unset, .unset, .unset] [(.int 2), (.int p4)])) _
    refine XS.iushr X0.here hx rfl (hb hby at_31) rfl ?_
    refine XS.iconst X0.here hx rfl (hb hby at_32) ?_
    show Steps p.tables e below (s₁.setTop (mkF m 33 #[.val (.int p0), .val (.int p1), .val (.int p2), .val (.int p3), .val (.int p4), .val (.int p0), .val (.int p1), .unset, .unset, .unset, .unset] [(.int 3), (.int ((p4.toUInt32 >>> ((2 : Int32) &&& 31).toUInt32).toInt32))])) _
    refine XS.iand X0.here hx rfl (hb hby at_33) rfl ?_
    show Steps p.tables e below (s₁.setTop (mkF m 34 #[.val (.int p0), .val (.int p1), .val (.int p2), .val (.int p3), .val (.int p4), .val (.int p0), .val (.int p1), .unset, .unset, .unset, .unset] [(.int (((p4.toUInt32 >>> ((2 : Int32) &&& 31).toUInt32).toInt32) &&& (3 : Int32)))])) _
    rw [f3]
    refine XS.istore X0.here hx rfl (hb hby at_34) rfl (l' := #[.val (.int p0), .val (.int p1), .val (.int p2), .val (.int p3), .val (.int p4), .val (.int p0), .val (.int p1), .val (.int 0), .unset, .unset, .unset]) rfl ?_
    show Steps p.tables e below (s₁.setTop (mkF m 36 #[.val (.int p0), .val (.int p1), .val (.int p2), .val (.int p3), .val (.int p4), .val (.int p0), .val (.int p1), .val (.int 0), .unset, .unset, .unset] [])) _
    refine st1 _ ?_
    refine XS.dup X1.here hx rfl (hb hby at_39) rfl rfl ?_
    refine XS.iloadN X1.here hx rfl (hb hby at_40) rfl ?_
    refine XS.iloadN X1.here hx rfl (hb hby at_41) rfl ?_
    show Steps p.tables e below (T1.setTop (mkF m 42 #[.val (.int p0), .val (.int p1), .val (.int p2), .val (.int p3), .val (.int p4), .val (.int p0), .val (.int p1), .val (.int 0), .unset, .unset, .unset] [(.int p1), (.int p0), (.ref b88), (.ref b88)])) _
    refine st2.trans ?_
    refine XS.astore X2.here hx rfl (hb hby at_45) rfl rfl (l' := #[.val (.int p0), .val (.int p1), .val (.int p2), .val (.int p3), .val (.int p4), .val (.int p0), .val (.int p1), .val (.int 0), .val (.ref b88), .unset, .unset]) rfl ?_
    show Steps p.tables e below (T2.setTop (mkF m 47 #[.val (.int p0), .val (.int p1), .val (.int p2), .val (.int p3), .val (.int p4), .val (.int p0), .val (.int p1), .val (.int 0), .val (.ref b88), .unset, .unset] [])) _
    refine st3 _ ?_
    refine XS.dup X3.here hx rfl (hb hby at_50) rfl rfl ?_
    refine XS.iload X3.here hx rfl (hb hby at_51) rfl ?_
    refine XS.iload X3.here hx rfl (hb hby at_53) rfl ?_
    show Steps p.tables e below (T3.setTop (mkF m 55 #[.val (.int p0), .val (.int p1), .val (.int p2), .val (.int p3), .val (.int p4), .val (.int p0), .val (.int p1), .val (.int 0), .val (.ref b88), .unset, .unset] [(.int p1), (.int p0), (.ref b89), (.ref b89)])) _
    refine st4.trans ?_
    refine XS.astore X4.here hx rfl (hb hby at_58) rfl rfl (l' := #[.val (.int p0), .val (.int p1), .val (.int p2), .val (.int p3), .val (.int p4), .val (.int p0), .val (.int p1), .val (.int 0), .val (.ref b88), .val (.ref b89), .unset]) rfl ?_
    refine XS.iload X4.here hx rfl (hb hby at_60) rfl ?_
    refine XS.ifNo X4.here hx rfl (hb hby at_62) rfl (by decide) ?_
    refine XS.iload X4.here hx rfl (hb hby at_65) rfl ?_
    show Steps p.tables e below (T4.setTop (mkF m 67 #[.val (.int p0), .val (.int p1), .val (.int p2), .val (.int p3), .val (.int p4), .val (.int p0), .val (.int p1), .val (.int 0), .val (.ref b88), .val (.ref b89), .unset] [(.int p0)])) _
    refine XS.iloadN X4.here hx rfl (hb hby at_67) rfl ?_
    refine XS.icmpNo X4.here hx rfl (hb hby at_68) rfl (teq (rfl : p0 = p0)).2 ?_
    refine XS.iload X4.here hx rfl (hb hby at_71) rfl ?_
    refine XS.iloadN X4.here hx rfl (hb hby at_73) rfl ?_
    refine XS.icmpNo X4.here hx rfl (hb hby at_74) rfl (teq (rfl : p1 = p1)).2 ?_
    show Steps p.tables e below (T4.setTop (mkF m 77 #[.val (.int p0), .val (.int p1), .val (.int p2), .val (.int p3), .val (.int p4), .val (.int p0), .val (.int p1), .val (.int 0), .val (.ref b88), .val (.ref b89), .unset] [])) _
    refine XS.iconst X4.here hx rfl (hb hby at_77) ?_
    refine XS.goto X4.here hx rfl (pc0 := 78) (pc' := 82) rfl (hb hby at_78) (by decide) (by decide) ?_
    refine XS.istore X4.here hx rfl (hb hby at_82) rfl (l' := #[.val (.int p0), .val (.int p1), .val (.int p2), .val (.int p3), .val (.int p4), .val (.int p0), .val (.int p1), .val (.int 0), .val (.ref b88), .val (.ref b89), .val (.int 1)]) rfl ?_
    refine XS.aload X4.here hx rfl (hb hby at_84) rfl rfl ?_
    refine XS.aload X4.here hx rfl (hb hby at_86) rfl rfl ?_
    show Steps p.tables e below (T4.setTop (mkF m 88 #[.val (.int p0), .val (.int p1), .val (.int p2), .val (.int p3), .val (.int p4), .val (.int p0), .val (.int p1), .val (.int 0), .val (.ref b88), .val (.ref b89), .val (.int 1)] [(.ref b89), (.ref b88)])) _
    refine st12.trans ?_
    refine XS.iload X12.here hx rfl (hb hby at_91) rfl ?_
    refine XS.icmpNo X12.here hx rfl (hb hby at_93) rfl (by decide) ?_
    refine XS.aload X12.here hx rfl (hb hby at_96) rfl rfl ?_
    refine XS.aload X12.here hx rfl (hb hby at_98) rfl rfl ?_
    show Steps p.tables e below (T12.setTop (mkF m 100 #[.val (.int p0), .val (.int p1), .val (.int p2), .val (.int p3), .val (.int p4), .val (.int p0), .val (.int p1), .val (.int 0), .val (.ref b88), .val (.ref b89), .val (.int 1)] [(.ref b88), (.ref b89)])) _
    refine st15.trans ?_
    refine XS.iload X15.here hx rfl (hb hby at_103) rfl ?_
    refine XS.icmpNo X15.here hx rfl (hb hby at_105) rfl (by decide) ?_
    refine XS.iconst X15.here hx rfl (hb hby at_108) ?_
    refine XS.goto X15.here hx rfl (pc0 := 109) (pc' := 113) rfl (hb hby at_109) (by decide) (by decide) ?_
    show Steps p.tables e below (T15.setTop (mkF m 113 #[.val (.int p0), .val (.int p1), .val (.int p2), .val (.int p3), .val (.int p4), .val (.int p0), .val (.int p1), .val (.int 0), .val (.ref b88), .val (.ref b89), .val (.int 1)] [(.int 1)])) _
    exact retN X15 hx (t := .boolean) Bd.returns (by simp) (hb hby at_113) hr
  · show QT n0 _ T15.heap _
    rw [e15]
    exact ⟨rfl, N15⟩
set_option maxRecDepth 65536 in
set_option maxHeartbeats 40000000 in
theorem rm0_94 (l : Launch) (Z : State) (a0 : Array Value) (hw : ∀ d ∈ tables_1, d.before a0 Z = true) (ws : List Jvm.Cond) (p0 : Int32) (p1 : Int32) (p2 : Int32) (p3 : Int32) (p4 : Int32) (h0 : Heap) (n0 : Nat) (Z0 : n0 ≤ h0.size) (f1 : ¬ ((p4 &&& (1 : Int32)) = (0 : Int32))) (f2 : ¬ ((p4 &&& (2 : Int32)) = (0 : Int32))) (f3 : (((p4.toUInt32 >>> ((2 : Int32) &&& 31).toUInt32).toInt32) &&& (3 : Int32)) = (1 : Int32)) :
    MetFree l x (head1 (Jvm.Cond.code x code maxLocals ret :: ws) room_1) (fun a U => a = #[(.int p0), (.int p1), (.int p2), (.int p3), (.int p4)] ∧ Z.Warmed39 U.vm ∧ U.heap = h0) (fun _ _ _ _ _ => True) (fun _ U o U' => ∃ v L, o = .returned v ∧ QT n0 v U'.heap L ∧ FrameEnd U o U' L room_1.cells room_1.slots) := by
  refine MetFree.of_bodySF (plainFor_of_name pn_hexwright_board_HexEqualsPinLaw) hisR ?_
  intro p e s m args below meth c s₁ Bd hml0 hP hK
  obtain ⟨rfl, hZ, hh⟩ := hP
  have hx := Bd.exec
  have hby := Bd.bytes
  have hml : c.maxLocals = 11 := hml0
  have hown : s.vm.findClass "hexwright/board/HexEqualsPinLaw" = some m.cls := findClass_of_methodNamed Bd.named
  have hnm := (name_of_methodNamed Bd.named Bd.method).1
  have X0 : Stand p l e room_1 s m #[(.int p0), (.int p1), (.int p2), (.int p3), (.int p4)] below meth c s₁ [] 0 0 := Stand.of_body Bd
  have e0 : s₁.heap = h0 := by rw [← hh, Bd.state]; rfl
  have N0 := Fr.nil n0
  obtain ⟨T1, h1, X1, e1, E1, A1, D1, -, st1⟩ := newO X0 hx hZ hown (tw_0 hw) (tw_1 hw) (tw_2 hw) e0 (g := (mkF m 36 #[.val (.int p0), .val (.int p1), .val (.int p2), .val (.int p3), .val (.int p4), .val (.int p0), .val (.int p1), .val (.int 1), .unset, .unset, .unset] [])) rfl (hb hby at_36) (by decide) (by decide)
  obtain ⟨b92, g1⟩ : ∃ z, z = h0.size := ⟨_, rfl⟩
  rw [← g1] at A1 D1 st1
  have sz_b92 : h0.size ≤ b92 := Nat.le_trans (Nat.le_refl _) (Nat.le_of_eq g1.symm)
  have g_b92 : n0 ≤ b92 := Nat.le_trans Z0 sz_b92
  have KK1 : Keep h0 h1 [] := (Keep.refl h0 []).ext E1
  have F1_15 : F_0 Z h1 b92 (.int 0) := D1 (Or.inr (tw_15 hw)) (ty := .int) (by decide)
  have F1_17 : F_1 Z h1 b92 (.int 0) := D1 (Or.inr (tw_17 hw)) (ty := .int) (by decide)
  -- pc 42: hexwright/board/Hex.<init>
  obtain ⟨_, _, ⟨T2, L2, k2, n2⟩, -, X2, ⟨Lc2, hQ2, l2, y2, z2⟩, st2⟩ := X1.specialBack hx (y := M_1) rfl hown (mvT hZ (tw_3 hw)) (mvT hZ (tw_4 hw)) (mvT hZ (tw_5 hw)) (by decide) (backOf (W := 1) (rm1_3 l Z a0 hw [] b92 p0 p1 h1 n0 (Nat.le_trans Z0 KK1.1) F1_15 A1 g_b92 F1_17) hZ (tw_5 hw) (tw_2 hw) (by decide) (by decide)) (g := (mkF m 42 #[.val (.int p0), .val (.int p1), .val (.int p2), .val (.int p3), .val (.int p4), .val (.int p0), .val (.int p1), .val (.int 1), .unset, .unset, .unset] [(.int p1), (.int p0), (.ref b92), (.ref b92)])) rfl (by rw [hml]; rfl) (Steps.refl _) (a := b92) (argsL := [(.int p0), (.int p1)]) (rest := [(.ref b92)]) (lenOf pd_1 rfl) rfl (by show 2 * 0 + _ ≤ _; exact Nat.le_of_eq rfl) (hb hby at_42) (fun _ _ => ⟨rfl, e1, (by decide : 1 + 0 ≤ _), (by decide : 2 + 0 ≤ _)⟩)
  dsimp only [Pt.U, Pt.locs, Pt.cells, Pt.slots] at X2 l2 y2 z2 st2 hQ2
  subst l2 y2 z2
  obtain ⟨rfl, Nq2, K2, o2_0, o2_1⟩ := hQ2
  have N2 := Fr.app N0 Nq2
  have KK2 : Keep h0 T2.heap [] := KK1.trans K2 (fun x hx => (List.mem_cons.mp hx).elim (fun q => q ▸ (Or.inr sz_b92)) (fun hx => nomatch hx))
  obtain ⟨T3, h3, X3, e3, E3, A3, D3, -, st3⟩ := newO X2 hx hZ hown (tw_0 hw) (tw_1 hw) (tw_2 hw) rfl (g := (mkF m 47 #[.val (.int p0), .val (.int p1), .val (.int p2), .val (.int p3), .val (.int p4), .val (.int p0), .val (.int p1), .val (.int 1), .val (.ref b92), .unset, .unset] [])) rfl (hb hby at_47) (by decide) (by decide)
  obtain ⟨b93, g3⟩ : ∃ z, z = T2.heap.size := ⟨_, rfl⟩
  rw [← g3] at A3 D3 st3
  have sz_b93 : h0.size ≤ b93 := Nat.le_trans KK2.1 (Nat.le_of_eq g3.symm)
  have g_b93 : n0 ≤ b93 := Nat.le_trans Z0 sz_b93
  have KK3 : Keep h0 h3 [] := KK2.ext E3
  have F3_15 : F_0 Z h3 b93 (.int 0) := D3 (Or.inr (tw_15 hw)) (ty := .int) (by decide)
  have F3_17 : F_1 Z h3 b93 (.int 0) := D3 (Or.inr (tw_17 hw)) (ty := .int) (by decide)
  -- pc 55: hexwright/board/Hex.<init>
  obtain ⟨_, _, ⟨T4, L4, k4, n4⟩, -, X4, ⟨Lc4, hQ4, l4, y4, z4⟩, st4⟩ := X3.specialBack hx (y := M_1) rfl hown (mvT hZ (tw_3 hw)) (mvT hZ (tw_4 hw)) (mvT hZ (tw_5 hw)) (by decide) (backOf (W := 1) (rm1_3 l Z a0 hw [] b93 p0 p1 h3 n0 (Nat.le_trans Z0 KK3.1) F3_15 A3 g_b93 F3_17) hZ (tw_5 hw) (tw_2 hw) (by decide) (by decide)) (g := (mkF m 55 #[.val (.int p0), .val (.int p1), .val (.int p2), .val (.int p3), .val (.int p4), .val (.int p0), .val (.int p1), .val (.int 1), .val (.ref b92), .unset, .unset] [(.int p1), (.int p0), (.ref b93), (.ref b93)])) rfl (by rw [hml]; rfl) (Steps.refl _) (a := b93) (argsL := [(.int p0), (.int p1)]) (rest := [(.ref b93)]) (lenOf pd_1 rfl) rfl (by show 2 * 0 + _ ≤ _; exact Nat.le_of_eq rfl) (hb hby at_55) (fun _ _ => ⟨rfl, e3, (by decide : 2 + 0 ≤ _), (by decide : 4 + 0 ≤ _)⟩)
  dsimp only [Pt.U, Pt.locs, Pt.cells, Pt.slots] at X4 l4 y4 z4 st4 hQ4
  subst l4 y4 z4
  obtain ⟨rfl, Nq4, K4, o4_0, o4_1⟩ := hQ4
  have N4 := Fr.app N2 Nq4
  have KK4 : Keep h0 T4.heap [] := KK3.trans K4 (fun x hx => (List.mem_cons.mp hx).elim (fun q => q ▸ (Or.inr sz_b93)) (fun hx => nomatch hx))
  -- pc 123: hexwright/board/Hex.equals
  have u6 : E_1 Z T2.heap b92 := Exa.keep A1 K2
  have u7 : E_1 Z h3 b92 := Exa.ext E3 u6
  have u8 : E_1 Z T4.heap b92 := Exa.keep u7 K4
  obtain ⟨cq5, kq5, q5a, q5b, q5c⟩ := isOf hZ rfl u8
  obtain ⟨_, _, ⟨T5, L5, k5, n5⟩, -, X5, ⟨Lc5, hQ5, l5, y5, z5⟩, st5⟩ := X4.virtualBack hx (y := M_2) (z := M_2) hown (mvT hZ (tw_18 hw)) (mvT hZ (tw_19 hw)) (notFace_of_selects (args := #[]) (mvT hZ (tw_21 hw))) (mvT hZ (tw_21 hw)) (mvT hZ (tw_20 hw)) (by decide) (backOf (W := 0) (rm4_23 l Z a0 hw [] b92 T4.heap n0 (Nat.le_trans Z0 KK4.1) ) hZ (tw_22 hw) (tw_2 hw) (by decide) (by decide)) q5a q5c (g := (mkF m 123 #[.val (.int p0), .val (.int p1), .val (.int p2), .val (.int p3), .val (.int p4), .val (.int p0), .val (.int p1), .val (.int 1), .val (.ref b92), .val (.ref b93), .unset] [.null, (.ref b92)])) rfl (by rw [hml]; rfl) (Steps.refl _) (argsL := [.null]) (rest := []) (lenOf pd_2 rfl) rfl (by show 2 * 0 + _ ≤ _; exact Nat.le_of_eq rfl) (hb hby at_123) (fun _ _ => ⟨rfl, rfl, (by decide : 2 + 0 ≤ _), (by decide : 4 + 0 ≤ _)⟩)
  dsimp only [Pt.U, Pt.locs, Pt.cells, Pt.slots] at X5 l5 y5 z5 st5 hQ5
  subst l5 y5 z5
  obtain ⟨rfl, Nq5, e5⟩ := hQ5
  have N5 := Fr.app N4 Nq5
  obtain ⟨fs, hr, hrun, hended, hW, hsame⟩ := X5.leave (v := (some (.int 1))) (fun h => by rw [Bd.returns] at h; cases h)
  refine ⟨_, _, castTop (ef0_IIIII m p0 p1 p2 p3 p4) ?_, hrun, hended, _, _, rfl, ?_, ⟨_, rfl⟩, hW, hsame.mono (by decide) (by decide)⟩
  · show Steps p.tables e below (s₁.setTop (mkF m 0 #[.val (.int p0), .val (.int p1), .val (.int p2), .val (.int p3), .val (.int p4), .unset, .unset, .unset, .unset, .unset, .unset] [])) _
    refine XS.iload X0.here hx rfl (hb hby at_0) rfl ?_
    refine XS.iconst X0.here hx rfl (hb hby at_2) ?_
    show Steps p.tables e below (s₁.setTop (mkF m 3 #[.val (.int p0), .val (.int p1), .val (.int p2), .val (.int p3), .val (.int p4), .unset, .unset, .unset, .unset, .unset, .unset] [(.int 1), (.int p4)])) _
    refine XS.iand X0.here hx rfl (hb hby at_3) rfl ?_
    refine XS.ifNo X0.here hx rfl (hb hby at_4) rfl ((if0 _ _).trans (feq (f1 : ¬ ((p4 &&& (1 : Int32)) = (0 : Int32)))).1) ?_
    refine XS.iloadN X0.here hx rfl (hb hby at_7) rfl ?_
    refine XS.goto X0.here hx rfl (pc0 := 8) (pc' := 12) rfl (hb hby at_8) (by decide) (by decide) ?_
    refine XS.istore X0.here hx rfl (hb hby at_12) rfl (l' := #[.val (.int p0), .val (.int p1), .val (.int p2), .val (.int p3), .val (.int p4), .val (.int p0), .unset, .unset, .unset, .unset, .unset]) rfl ?_
    show Steps p.tables e below (s₁.setTop (mkF m 14 #[.val (.int p0), .val (.int p1), .val (.int p2), .val (.int p3), .val (.int p4), .val (.int p0), .unset, .unset, .unset, .unset, .unset] [])) _
    refine XS.iload X0.here hx rfl (hb hby at_14) rfl ?_
    refine XS.iconst X0.here hx rfl (hb hby at_16) ?_
    show Steps p.tables e below (s₁.setTop (mkF m 17 #[.val (.int p0), .val (.int p1), .val (.int p2), .val (.int p3), .val (.int p4), .val (.int p0), .unset, .unset, .unset, .unset, .unset] [(.int 2), (.int p4)])) _
    refine XS.iand X0.here hx rfl (hb hby at_17) rfl ?_
    refine XS.ifNo X0.here hx rfl (hb hby at_18) rfl ((if0 _ _).trans (feq (f2 : ¬ ((p4 &&& (2 : Int32)) = (0 : Int32)))).1) ?_
    refine XS.iloadN X0.here hx rfl (hb hby at_21) rfl ?_
    refine XS.goto X0.here hx rfl (pc0 := 22) (pc' := 26) rfl (hb hby at_22) (by decide) (by decide) ?_
    refine XS.istore X0.here hx rfl (hb hby at_26) rfl (l' := #[.val (.int p0), .val (.int p1), .val (.int p2), .val (.int p3), .val (.int p4), .val (.int p0), .val (.int p1), .unset, .unset, .unset, .unset]) rfl ?_
    show Steps p.tables e below (s₁.setTop (mkF m 28 #[.val (.int p0), .val (.int p1), .val (.int p2), .val (.int p3), .val (.int p4), .val (.int p0), .val (.int p1), .unset, .unset, .unset, .unset] [])) _
    refine XS.iload X0.here hx rfl (hb hby at_28) rfl ?_
    refine XS.iconst X0.here hx rfl (hb hby at_30) ?_
    show Steps p.tables e below (s₁.setTop (mkF m 31 #[.val (.int p0), .val (.int p1), .val (.int p2), .val (.int p3), .val (.int p4), .val (.int p0), .val (.int p1), .unset, .unset, .unset, .unset] [(.int 2), (.int p4)])) _
    refine XS.iushr X0.here hx rfl (hb hby at_31) rfl ?_
    refine XS.iconst X0.here hx rfl (hb hby at_32) ?_
    show Steps p.tables e below (s₁.setTop (mkF m 33 #[.val (.int p0), .val (.int p1), .val (.int p2), .val (.int p3), .val (.int p4), .val (.int p0), .val (.int p1), .unset, .unset, .unset, .unset] [(.int 3), (.int ((p4.toUInt32 >>> ((2 : Int32) &&& 31).toUInt32).toInt32))])) _
    refine XS.iand X0.here hx rfl (hb hby at_33) rfl ?_
    show Steps p.tables e below (s₁.setTop (mkF m 34 #[.val (.int p0), .val (.int p1), .val (.int p2), .val (.int p3), .val (.int p4), .val (.int p0), .val (.int p1), .unset, .unset, .unset, .unset] [(.int (((p4.toUInt32 >>> ((2 : Int32) &&& 31).toUInt32).toInt32) &&& (3 : Int32)))])) _
    rw [f3]
    refine XS.istore X0.here hx rfl (hb hby at_34) rfl (l' := #[.val (.int p0), .val (.int p1), .val (.int p2), .val (.int p3), .val (.int p4), .val (.int p0), .val (.int p1), .val (.int 1), .unset, .unset, .unset]) rfl ?_
    show Steps p.tables e below (s₁.setTop (mkF m 36 #[.val (.int p0), .val (.int p1), .val (.int p2), .val (.int p3), .val (.int p4), .val (.int p0), .val (.int p1), .val (.int 1), .unset, .unset, .unset] [])) _
    refine st1 _ ?_
    refine XS.dup X1.here hx rfl (hb hby at_39) rfl rfl ?_
    refine XS.iloadN X1.here hx rfl (hb hby at_40) rfl ?_
    refine XS.iloadN X1.here hx rfl (hb hby at_41) rfl ?_
    show Steps p.tables e below (T1.setTop (mkF m 42 #[.val (.int p0), .val (.int p1), .val (.int p2), .val (.int p3), .val (.int p4), .val (.int p0), .val (.int p1), .val (.int 1), .unset, .unset, .unset] [(.int p1), (.int p0), (.ref b92), (.ref b92)])) _
    refine st2.trans ?_
    refine XS.astore X2.here hx rfl (hb hby at_45) rfl rfl (l' := #[.val (.int p0), .val (.int p1), .val (.int p2), .val (.int p3), .val (.int p4), .val (.int p0), .val (.int p1), .val (.int 1), .val (.ref b92), .unset, .unset]) rfl ?_
    show Steps p.tables e below (T2.setTop (mkF m 47 #[.val (.int p0), .val (.int p1), .val (.int p2), .val (.int p3), .val (.int p4), .val (.int p0), .val (.int p1), .val (.int 1), .val (.ref b92), .unset, .unset] [])) _
    refine st3 _ ?_
    refine XS.dup X3.here hx rfl (hb hby at_50) rfl rfl ?_
    refine XS.iload X3.here hx rfl (hb hby at_51) rfl ?_
    refine XS.iload X3.here hx rfl (hb hby at_53) rfl ?_
    show Steps p.tables e below (T3.setTop (mkF m 55 #[.val (.int p0), .val (.int p1), .val (.int p2), .val (.int p3), .val (.int p4), .val (.int p0), .val (.int p1), .val (.int 1), .val (.ref b92), .unset, .unset] [(.int p1), (.int p0), (.ref b93), (.ref b93)])) _
    refine st4.trans ?_
    refine XS.astore X4.here hx rfl (hb hby at_58) rfl rfl (l' := #[.val (.int p0), .val (.int p1), .val (.int p2), .val (.int p3), .val (.int p4), .val (.int p0), .val (.int p1), .val (.int 1), .val (.ref b92), .val (.ref b93), .unset]) rfl ?_
    refine XS.iload X4.here hx rfl (hb hby at_60) rfl ?_
    refine XS.ifYes X4.here hx rfl (pc0 := 62) (pc' := 114) rfl (hb hby at_62) rfl (by decide) (by decide) (by decide) ?_
    refine XS.iload X4.here hx rfl (hb hby at_114) rfl ?_
    show Steps p.tables e below (T4.setTop (mkF m 116 #[.val (.int p0), .val (.int p1), .val (.int p2), .val (.int p3), .val (.int p4), .val (.int p0), .val (.int p1), .val (.int 1), .val (.ref b92), .val (.ref b93), .unset] [(.int 1)])) _
    refine XS.iconst X4.here hx rfl (hb hby at_116) ?_
    refine XS.icmpNo X4.here hx rfl (hb hby at_117) rfl (by decide) ?_
    refine XS.aload X4.here hx rfl (hb hby at_120) rfl rfl ?_
    refine XS.aconstNull X4.here hx rfl (hb hby at_122) ?_
    show Steps p.tables e below (T4.setTop (mkF m 123 #[.val (.int p0), .val (.int p1), .val (.int p2), .val (.int p3), .val (.int p4), .val (.int p0), .val (.int p1), .val (.int 1), .val (.ref b92), .val (.ref b93), .unset] [.null, (.ref b92)])) _
    refine st5.trans ?_
    refine XS.ifNo X5.here hx rfl (hb hby at_126) rfl (by decide) ?_
    refine XS.iconst X5.here hx rfl (hb hby at_129) ?_
    refine XS.goto X5.here hx rfl (pc0 := 130) (pc' := 134) rfl (hb hby at_130) (by decide) (by decide) ?_
    show Steps p.tables e below (T5.setTop (mkF m 134 #[.val (.int p0), .val (.int p1), .val (.int p2), .val (.int p3), .val (.int p4), .val (.int p0), .val (.int p1), .val (.int 1), .val (.ref b92), .val (.ref b93), .unset] [(.int 1)])) _
    exact retN X5 hx (t := .boolean) Bd.returns (by simp) (hb hby at_134) hr
  · show QT n0 _ T5.heap _
    rw [e5]
    exact ⟨rfl, N5⟩
set_option maxRecDepth 65536 in
set_option maxHeartbeats 40000000 in
theorem rm0_98 (l : Launch) (Z : State) (a0 : Array Value) (hw : ∀ d ∈ tables_1, d.before a0 Z = true) (ws : List Jvm.Cond) (p0 : Int32) (p1 : Int32) (p2 : Int32) (p3 : Int32) (p4 : Int32) (a_cache : Addr) (h0 : Heap) (n0 : Nat) (Z0 : n0 ≤ h0.size) (f1 : ¬ ((p4 &&& (1 : Int32)) = (0 : Int32))) (f2 : ¬ ((p4 &&& (2 : Int32)) = (0 : Int32))) (f3 : (((p4.toUInt32 >>> ((2 : Int32) &&& 31).toUInt32).toInt32) &&& (3 : Int32)) = (2 : Int32)) (f4 : S_0 Z h0 (.int 127)) (f5 : S_1 Z h0 (.ref a_cache)) (f6 : OwnAll Z h0 a_cache "java/lang/Integer") (f7 : E_0 Z h0 a_cache) :
    MetFree l x (head1 (Jvm.Cond.code x code maxLocals ret :: ws) room_1) (fun a U => a = #[(.int p0), (.int p1), (.int p2), (.int p3), (.int p4)] ∧ Z.Warmed39 U.vm ∧ U.heap = h0) (fun _ _ _ _ _ => True) (fun _ U o U' => ∃ v L, o = .returned v ∧ QT n0 v U'.heap L ∧ FrameEnd U o U' L room_1.cells room_1.slots) := by
  refine MetFree.of_bodySF (plainFor_of_name pn_hexwright_board_HexEqualsPinLaw) hisR ?_
  intro p e s m args below meth c s₁ Bd hml0 hP hK
  obtain ⟨rfl, hZ, hh⟩ := hP
  have hx := Bd.exec
  have hby := Bd.bytes
  have hml : c.maxLocals = 11 := hml0
  have hown : s.vm.findClass "hexwright/board/HexEqualsPinLaw" = some m.cls := findClass_of_methodNamed Bd.named
  have hnm := (name_of_methodNamed Bd.named Bd.method).1
  have X0 : Stand p l e room_1 s m #[(.int p0), (.int p1), (.int p2), (.int p3), (.int p4)] below meth c s₁ [] 0 0 := Stand.of_body Bd
  have e0 : s₁.heap = h0 := by rw [← hh, Bd.state]; rfl
  have N0 := Fr.nil n0
  obtain ⟨T1, h1, X1, e1, E1, A1, D1, -, st1⟩ := newO X0 hx hZ hown (tw_0 hw) (tw_1 hw) (tw_2 hw) e0 (g := (mkF m 36 #[.val (.int p0), .val (.int p1), .val (.int p2), .val (.int p3), .val (.int p4), .val (.int p0), .val (.int p1), .val (.int 2), .unset, .unset, .unset] [])) rfl (hb hby at_36) (by decide) (by decide)
  obtain ⟨b95, g1⟩ : ∃ z, z = h0.size := ⟨_, rfl⟩
  rw [← g1] at A1 D1 st1
  have sz_b95 : h0.size ≤ b95 := Nat.le_trans (Nat.le_refl _) (Nat.le_of_eq g1.symm)
  have g_b95 : n0 ≤ b95 := Nat.le_trans Z0 sz_b95
  have KK1 : Keep h0 h1 [] := (Keep.refl h0 []).ext E1
  have F1_15 : F_0 Z h1 b95 (.int 0) := D1 (Or.inr (tw_15 hw)) (ty := .int) (by decide)
  have F1_17 : F_1 Z h1 b95 (.int 0) := D1 (Or.inr (tw_17 hw)) (ty := .int) (by decide)
  -- pc 42: hexwright/board/Hex.<init>
  obtain ⟨_, _, ⟨T2, L2, k2, n2⟩, -, X2, ⟨Lc2, hQ2, l2, y2, z2⟩, st2⟩ := X1.specialBack hx (y := M_1) rfl hown (mvT hZ (tw_3 hw)) (mvT hZ (tw_4 hw)) (mvT hZ (tw_5 hw)) (by decide) (backOf (W := 1) (rm1_3 l Z a0 hw [] b95 p0 p1 h1 n0 (Nat.le_trans Z0 KK1.1) F1_15 A1 g_b95 F1_17) hZ (tw_5 hw) (tw_2 hw) (by decide) (by decide)) (g := (mkF m 42 #[.val (.int p0), .val (.int p1), .val (.int p2), .val (.int p3), .val (.int p4), .val (.int p0), .val (.int p1), .val (.int 2), .unset, .unset, .unset] [(.int p1), (.int p0), (.ref b95), (.ref b95)])) rfl (by rw [hml]; rfl) (Steps.refl _) (a := b95) (argsL := [(.int p0), (.int p1)]) (rest := [(.ref b95)]) (lenOf pd_1 rfl) rfl (by show 2 * 0 + _ ≤ _; exact Nat.le_of_eq rfl) (hb hby at_42) (fun _ _ => ⟨rfl, e1, (by decide : 1 + 0 ≤ _), (by decide : 2 + 0 ≤ _)⟩)
  dsimp only [Pt.U, Pt.locs, Pt.cells, Pt.slots] at X2 l2 y2 z2 st2 hQ2
  subst l2 y2 z2
  obtain ⟨rfl, Nq2, K2, o2_0, o2_1⟩ := hQ2
  have N2 := Fr.app N0 Nq2
  have KK2 : Keep h0 T2.heap [] := KK1.trans K2 (fun x hx => (List.mem_cons.mp hx).elim (fun q => q ▸ (Or.inr sz_b95)) (fun hx => nomatch hx))
  obtain ⟨T3, h3, X3, e3, E3, A3, D3, -, st3⟩ := newO X2 hx hZ hown (tw_0 hw) (tw_1 hw) (tw_2 hw) rfl (g := (mkF m 47 #[.val (.int p0), .val (.int p1), .val (.int p2), .val (.int p3), .val (.int p4), .val (.int p0), .val (.int p1), .val (.int 2), .val (.ref b95), .unset, .unset] [])) rfl (hb hby at_47) (by decide) (by decide)
  obtain ⟨b96, g3⟩ : ∃ z, z = T2.heap.size := ⟨_, rfl⟩
  rw [← g3] at A3 D3 st3
  have sz_b96 : h0.size ≤ b96 := Nat.le_trans KK2.1 (Nat.le_of_eq g3.symm)
  have g_b96 : n0 ≤ b96 := Nat.le_trans Z0 sz_b96
  have KK3 : Keep h0 h3 [] := KK2.ext E3
  have F3_15 : F_0 Z h3 b96 (.int 0) := D3 (Or.inr (tw_15 hw)) (ty := .int) (by decide)
  have F3_17 : F_1 Z h3 b96 (.int 0) := D3 (Or.inr (tw_17 hw)) (ty := .int) (by decide)
  -- pc 55: hexwright/board/Hex.<init>
  obtain ⟨_, _, ⟨T4, L4, k4, n4⟩, -, X4, ⟨Lc4, hQ4, l4, y4, z4⟩, st4⟩ := X3.specialBack hx (y := M_1) rfl hown (mvT hZ (tw_3 hw)) (mvT hZ (tw_4 hw)) (mvT hZ (tw_5 hw)) (by decide) (backOf (W := 1) (rm1_3 l Z a0 hw [] b96 p0 p1 h3 n0 (Nat.le_trans Z0 KK3.1) F3_15 A3 g_b96 F3_17) hZ (tw_5 hw) (tw_2 hw) (by decide) (by decide)) (g := (mkF m 55 #[.val (.int p0), .val (.int p1), .val (.int p2), .val (.int p3), .val (.int p4), .val (.int p0), .val (.int p1), .val (.int 2), .val (.ref b95), .unset, .unset] [(.int p1), (.int p0), (.ref b96), (.ref b96)])) rfl (by rw [hml]; rfl) (Steps.refl _) (a := b96) (argsL := [(.int p0), (.int p1)]) (rest := [(.ref b96)]) (lenOf pd_1 rfl) rfl (by show 2 * 0 + _ ≤ _; exact Nat.le_of_eq rfl) (hb hby at_55) (fun _ _ => ⟨rfl, e3, (by decide : 2 + 0 ≤ _), (by decide : 4 + 0 ≤ _)⟩)
  dsimp only [Pt.U, Pt.locs, Pt.cells, Pt.slots] at X4 l4 y4 z4 st4 hQ4
  subst l4 y4 z4
  obtain ⟨rfl, Nq4, K4, o4_0, o4_1⟩ := hQ4
  have N4 := Fr.app N2 Nq4
  have KK4 : Keep h0 T4.heap [] := KK3.trans K4 (fun x hx => (List.mem_cons.mp hx).elim (fun q => q ▸ (Or.inr sz_b96)) (fun hx => nomatch hx))
  -- pc 144: java/lang/Integer.valueOf
  have u5 : S_0 Z h1 (.int 127) := Sta.ext E1 f4
  have u6 : S_0 Z T2.heap (.int 127) := own_sta_keep u5 K2 (own_ns (Exa.nostat A1) (fun _ q => nomatch q))
  have u7 : S_0 Z h3 (.int 127) := Sta.ext E3 u6
  have u8 : S_0 Z T4.heap (.int 127) := own_sta_keep u7 K4 (own_ns (Exa.nostat A3) (fun _ q => nomatch q))
  have u9 : S_1 Z h1 (.ref a_cache) := Sta.ext E1 f5
  have u10 : S_1 Z T2.heap (.ref a_cache) := own_sta_keep u9 K2 (own_ns (Exa.nostat A1) (fun _ q => nomatch q))
  have u11 : S_1 Z h3 (.ref a_cache) := Sta.ext E3 u10
  have u12 : S_1 Z T4.heap (.ref a_cache) := own_sta_keep u11 K4 (own_ns (Exa.nostat A3) (fun _ q => nomatch q))
  have u13 : OwnAll Z h1 a_cache "java/lang/Integer" := own_all_ext f6 E1
  have ne14 : a_cache ≠ b95 := Nat.ne_of_lt (Nat.lt_of_lt_of_le (Exa.lt f7) (Nat.le_of_eq g1.symm))
  have u15 : OwnAll Z T2.heap a_cache "java/lang/Integer" := own_all_keep u13 K2 (own_notin ne14 List.not_mem_nil)
  have u16 : OwnAll Z h3 a_cache "java/lang/Integer" := own_all_ext u15 E3
  have u17 : E_0 Z h1 a_cache := Exa.ext E1 f7
  have u18 : E_0 Z T2.heap a_cache := Exa.keep u17 K2
  have ne19 : a_cache ≠ b96 := Nat.ne_of_lt (Nat.lt_of_lt_of_le (Exa.lt u18) (Nat.le_of_eq g3.symm))
  have u20 : OwnAll Z T4.heap a_cache "java/lang/Integer" := own_all_keep u16 K4 (own_notin ne19 List.not_mem_nil)
  obtain ⟨_, _, ⟨T21, L21, k21, n21⟩, -, X21, ⟨Lc21, hQ21, l21, y21, z21⟩, st21⟩ := Jvm.LawKit.callS X4 hx (y := M_5) hown (mvT hZ (tw_25 hw)) (mvT hZ (tw_26 hw)) (mvT hZ (tw_27 hw)) (mvT hZ (tw_28 hw)) (by decide) (backOf (W := 1) (rmB_37 l Z a0 hw [] p0 a_cache T4.heap n0 (Nat.le_trans Z0 KK4.1) u8 u12 u20) hZ (tw_28 hw) (tw_27 hw) (by decide) (by decide)) (g := (mkF m 144 #[.val (.int p0), .val (.int p1), .val (.int p2), .val (.int p3), .val (.int p4), .val (.int p0), .val (.int p1), .val (.int 2), .val (.ref b95), .val (.ref b96), .unset] [(.int p0), (.ref b95)])) rfl (by rw [hml]; rfl) (argsL := [(.int p0)]) (rest := [(.ref b95)]) (lenOf pd_4 rfl) rfl (by show 2 * 0 + _ ≤ _; exact Nat.le_of_eq rfl) (hb hby at_144) (fun _ _ => ⟨rfl, rfl, (by decide : 2 + 1 ≤ _), (by decide : 4 + 1 ≤ _)⟩)
  dsimp only [Pt.U, Pt.locs, Pt.cells, Pt.slots] at X21 l21 y21 z21 st21 hQ21
  subst l21 y21 z21
  obtain ⟨bx97, rfl, Nq21, K21, o21_0⟩ := hQ21
  have N21 := Fr.app N4 Nq21
  have KK21 : Keep h0 T21.heap [] := KK4.trans K21 (fun x hx => nomatch hx)
  -- pc 147: hexwright/board/Hex.equals
  have u23 : E_1 Z T2.heap b95 := Exa.keep A1 K2
  have u24 : E_1 Z h3 b95 := Exa.ext E3 u23
  have u25 : E_1 Z T4.heap b95 := Exa.keep u24 K4
  have u26 : E_1 Z T21.heap b95 := Exa.keep u25 K21
  obtain ⟨cq22, kq22, q22a, q22b, q22c⟩ := isOf hZ rfl u26
  obtain ⟨_, _, ⟨T22, L22, k22, n22⟩, -, X22, ⟨Lc22, hQ22, l22, y22, z22⟩, st22⟩ := X21.virtualBack hx (y := M_2) (z := M_2) hown (mvT hZ (tw_18 hw)) (mvT hZ (tw_19 hw)) (notFace_of_selects (args := #[]) (mvT hZ (tw_21 hw))) (mvT hZ (tw_21 hw)) (mvT hZ (tw_20 hw)) (by decide) (backOf (W := 0) (rm4_40 l Z a0 hw [] b95 bx97 T21.heap n0 (Nat.le_trans Z0 KK21.1) o21_0) hZ (tw_22 hw) (tw_2 hw) (by decide) (by decide)) q22a q22c (g := (mkF m 147 #[.val (.int p0), .val (.int p1), .val (.int p2), .val (.int p3), .val (.int p4), .val (.int p0), .val (.int p1), .val (.int 2), .val (.ref b95), .val (.ref b96), .unset] [(.ref bx97), (.ref b95)])) rfl (by rw [hml]; rfl) (Steps.refl _) (argsL := [(.ref bx97)]) (rest := []) (lenOf pd_2 rfl) rfl (by show 2 * 0 + _ ≤ _; exact Nat.le_of_eq rfl) (hb hby at_147) (fun _ _ => ⟨rfl, rfl, (by decide : 3 + 0 ≤ _), (by decide : 5 + 0 ≤ _)⟩)
  dsimp only [Pt.U, Pt.locs, Pt.cells, Pt.slots] at X22 l22 y22 z22 st22 hQ22
  subst l22 y22 z22
  obtain ⟨rfl, Nq22, e22⟩ := hQ22
  have N22 := Fr.app N21 Nq22
  obtain ⟨fs, hr, hrun, hended, hW, hsame⟩ := X22.leave (v := (some (.int 1))) (fun h => by rw [Bd.returns] at h; cases h)
  refine ⟨_, _, castTop (ef0_IIIII m p0 p1 p2 p3 p4) ?_, hrun, hended, _, _, rfl, ?_, ⟨_, rfl⟩, hW, hsame.mono (by decide) (by decide)⟩
  · show Steps p.tables e below (s₁.setTop (mkF m 0 #[.val (.int p0), .val (.int p1), .val (.int p2), .val (.int p3), .val (.int p4), .unset, .unset, .unset, .unset, .unset, .unset] [])) _
    refine XS.iload X0.here hx rfl (hb hby at_0) rfl ?_
    refine XS.iconst X0.here hx rfl (hb hby at_2) ?_
    show Steps p.tables e below (s₁.setTop (mkF m 3 #[.val (.int p0), .val (.int p1), .val (.int p2), .val (.int p3), .val (.int p4), .unset, .unset, .unset, .unset, .unset, .unset] [(.int 1), (.int p4)])) _
    refine XS.iand X0.here hx rfl (hb hby at_3) rfl ?_
    refine XS.ifNo X0.here hx rfl (hb hby at_4) rfl ((if0 _ _).trans (feq (f1 : ¬ ((p4 &&& (1 : Int32)) = (0 : Int32)))).1) ?_
    refine XS.iloadN X0.here hx rfl (hb hby at_7) rfl ?_
    refine XS.goto X0.here hx rfl (pc0 := 8) (pc' := 12) rfl (hb hby at_8) (by decide) (by decide) ?_
    refine XS.istore X0.here hx rfl (hb hby at_12) rfl (l' := #[.val (.int p0), .val (.int p1), .val (.int p2), .val (.int p3), .val (.int p4), .val (.int p0), .unset, .unset, .unset, .unset, .unset]) rfl ?_
    show Steps p.tables e below (s₁.setTop (mkF m 14 #[.val (.int p0), .val (.int p1), .val (.int p2), .val (.int p3), .val (.int p4), .val (.int p0), .unset, .unset, .unset, .unset, .unset] [])) _
    refine XS.iload X0.here hx rfl (hb hby at_14) rfl ?_
    refine XS.iconst X0.here hx rfl (hb hby at_16) ?_
    show Steps p.tables e below (s₁.setTop (mkF m 17 #[.val (.int p0), .val (.int p1), .val (.int p2), .val (.int p3), .val (.int p4), .val (.int p0), .unset, .unset, .unset, .unset, .unset] [(.int 2), (.int p4)])) _
    refine XS.iand X0.here hx rfl (hb hby at_17) rfl ?_
    refine XS.ifNo X0.here hx rfl (hb hby at_18) rfl ((if0 _ _).trans (feq (f2 : ¬ ((p4 &&& (2 : Int32)) = (0 : Int32)))).1) ?_
    refine XS.iloadN X0.here hx rfl (hb hby at_21) rfl ?_
    refine XS.goto X0.here hx rfl (pc0 := 22) (pc' := 26) rfl (hb hby at_22) (by decide) (by decide) ?_
    refine XS.istore X0.here hx rfl (hb hby at_26) rfl (l' := #[.val (.int p0), .val (.int p1), .val (.int p2), .val (.int p3), .val (.int p4), .val (.int p0), .val (.int p1), .unset, .unset, .unset, .unset]) rfl ?_
    show Steps p.tables e below (s₁.setTop (mkF m 28 #[.val (.int p0), .val (.int p1), .val (.int p2), .val (.int p3), .val (.int p4), .val (.int p0), .val (.int p1), .unset, .unset, .unset, .unset] [])) _
    refine XS.iload X0.here hx rfl (hb hby at_28) rfl ?_
    refine XS.iconst X0.here hx rfl (hb hby at_30) ?_
    show Steps p.tables e below (s₁.setTop (mkF m 31 #[.val (.int p0), .val (.int p1), .val (.int p2), .val (.int p3), .val (.int p4), .val (.int p0), .val (.int p1), .unset, .unset, .unset, .unset] [(.int 2), (.int p4)])) _
    refine XS.iushr X0.here hx rfl (hb hby at_31) rfl ?_
    refine XS.iconst X0.here hx rfl (hb hby at_32) ?_
    show Steps p.tables e below (s₁.setTop (mkF m 33 #[.val (.int p0), .val (.int p1), .val (.int p2), .val (.int p3), .val (.int p4), .val (.int p0), .val (.int p1), .unset, .unset, .unset, .unset] [(.int 3), (.int ((p4.toUInt32 >>> ((2 : Int32) &&& 31).toUInt32).toInt32))])) _
    refine XS.iand X0.here hx rfl (hb hby at_33) rfl ?_
    show Steps p.tables e below (s₁.setTop (mkF m 34 #[.val (.int p0), .val (.int p1), .val (.int p2), .val (.int p3), .val (.int p4), .val (.int p0), .val (.int p1), .unset, .unset, .unset, .unset] [(.int (((p4.toUInt32 >>> ((2 : Int32) &&& 31).toUInt32).toInt32) &&& (3 : Int32)))])) _
    rw [f3]
    refine XS.istore X0.here hx rfl (hb hby at_34) rfl (l' := #[.val (.int p0), .val (.int p1), .val (.int p2), .val (.int p3), .val (.int p4), .val (.int p0), .val (.int p1), .val (.int 2), .unset, .unset, .unset]) rfl ?_
    show Steps p.tables e below (s₁.setTop (mkF m 36 #[.val (.int p0), .val (.int p1), .val (.int p2), .val (.int p3), .val (.int p4), .val (.int p0), .val (.int p1), .val (.int 2), .unset, .unset, .unset] [])) _
    refine st1 _ ?_
    refine XS.dup X1.here hx rfl (hb hby at_39) rfl rfl ?_
    refine XS.iloadN X1.here hx rfl (hb hby at_40) rfl ?_
    refine XS.iloadN X1.here hx rfl (hb hby at_41) rfl ?_
    show Steps p.tables e below (T1.setTop (mkF m 42 #[.val (.int p0), .val (.int p1), .val (.int p2), .val (.int p3), .val (.int p4), .val (.int p0), .val (.int p1), .val (.int 2), .unset, .unset, .unset] [(.int p1), (.int p0), (.ref b95), (.ref b95)])) _
    refine st2.trans ?_
    refine XS.astore X2.here hx rfl (hb hby at_45) rfl rfl (l' := #[.val (.int p0), .val (.int p1), .val (.int p2), .val (.int p3), .val (.int p4), .val (.int p0), .val (.int p1), .val (.int 2), .val (.ref b95), .unset, .unset]) rfl ?_
    show Steps p.tables e below (T2.setTop (mkF m 47 #[.val (.int p0), .val (.int p1), .val (.int p2), .val (.int p3), .val (.int p4), .val (.int p0), .val (.int p1), .val (.int 2), .val (.ref b95), .unset, .unset] [])) _
    refine st3 _ ?_
    refine XS.dup X3.here hx rfl (hb hby at_50) rfl rfl ?_
    refine XS.iload X3.here hx rfl (hb hby at_51) rfl ?_
    refine XS.iload X3.here hx rfl (hb hby at_53) rfl ?_
    show Steps p.tables e below (T3.setTop (mkF m 55 #[.val (.int p0), .val (.int p1), .val (.int p2), .val (.int p3), .val (.int p4), .val (.int p0), .val (.int p1), .val (.int 2), .val (.ref b95), .unset, .unset] [(.int p1), (.int p0), (.ref b96), (.ref b96)])) _
    refine st4.trans ?_
    refine XS.astore X4.here hx rfl (hb hby at_58) rfl rfl (l' := #[.val (.int p0), .val (.int p1), .val (.int p2), .val (.int p3), .val (.int p4), .val (.int p0), .val (.int p1), .val (.int 2), .val (.ref b95), .val (.ref b96), .unset]) rfl ?_
    refine XS.iload X4.here hx rfl (hb hby at_60) rfl ?_
    refine XS.ifYes X4.here hx rfl (pc0 := 62) (pc' := 114) rfl (hb hby at_62) rfl (by decide) (by decide) (by decide) ?_
    refine XS.iload X4.here hx rfl (hb hby at_114) rfl ?_
    show Steps p.tables e below (T4.setTop (mkF m 116 #[.val (.int p0), .val (.int p1), .val (.int p2), .val (.int p3), .val (.int p4), .val (.int p0), .val (.int p1), .val (.int 2), .val (.ref b95), .val (.ref b96), .unset] [(.int 2)])) _
    refine XS.iconst X4.here hx rfl (hb hby at_116) ?_
    refine XS.icmpYes X4.here hx rfl (pc0 := 117) (pc' := 135) rfl (hb hby at_117) rfl (by decide) (by decide) (by decide) ?_
    refine XS.iload X4.here hx rfl (hb hby at_135) rfl ?_
    refine XS.iconst X4.here hx rfl (hb hby at_137) ?_
    refine XS.icmpNo X4.here hx rfl (hb hby at_138) rfl (by decide) ?_
    show Steps p.tables e below (T4.setTop (mkF m 141 #[.val (.int p0), .val (.int p1), .val (.int p2), .val (.int p3), .val (.int p4), .val (.int p0), .val (.int p1), .val (.int 2), .val (.ref b95), .val (.ref b96), .unset] [])) _
    refine XS.aload X4.here hx rfl (hb hby at_141) rfl rfl ?_
    refine XS.iloadN X4.here hx rfl (hb hby at_143) rfl ?_
    show Steps p.tables e below (T4.setTop (mkF m 144 #[.val (.int p0), .val (.int p1), .val (.int p2), .val (.int p3), .val (.int p4), .val (.int p0), .val (.int p1), .val (.int 2), .val (.ref b95), .val (.ref b96), .unset] [(.int p0), (.ref b95)])) _
    refine st21 _ ?_
    show Steps p.tables e below (T21.setTop (mkF m 147 #[.val (.int p0), .val (.int p1), .val (.int p2), .val (.int p3), .val (.int p4), .val (.int p0), .val (.int p1), .val (.int 2), .val (.ref b95), .val (.ref b96), .unset] [(.ref bx97), (.ref b95)])) _
    refine st22.trans ?_
    refine XS.ifNo X22.here hx rfl (hb hby at_150) rfl (by decide) ?_
    refine XS.iconst X22.here hx rfl (hb hby at_153) ?_
    refine XS.goto X22.here hx rfl (pc0 := 154) (pc' := 158) rfl (hb hby at_154) (by decide) (by decide) ?_
    show Steps p.tables e below (T22.setTop (mkF m 158 #[.val (.int p0), .val (.int p1), .val (.int p2), .val (.int p3), .val (.int p4), .val (.int p0), .val (.int p1), .val (.int 2), .val (.ref b95), .val (.ref b96), .unset] [(.int 1)])) _
    exact retN X22 hx (t := .boolean) Bd.returns (by simp) (hb hby at_158) hr
  · show QT n0 _ T22.heap _
    rw [e22]
    exact ⟨rfl, N22⟩
set_option maxRecDepth 65536 in
set_option maxHeartbeats 40000000 in
theorem rm0_101 (l : Launch) (Z : State) (a0 : Array Value) (hw : ∀ d ∈ tables_1, d.before a0 Z = true) (ws : List Jvm.Cond) (p0 : Int32) (p1 : Int32) (p2 : Int32) (p3 : Int32) (p4 : Int32) (h0 : Heap) (n0 : Nat) (Z0 : n0 ≤ h0.size) (f1 : ¬ ((p4 &&& (1 : Int32)) = (0 : Int32))) (f2 : ¬ ((p4 &&& (2 : Int32)) = (0 : Int32))) (f3 : (((p4.toUInt32 >>> ((2 : Int32) &&& 31).toUInt32).toInt32) &&& (3 : Int32)) = (3 : Int32)) :
    MetFree l x (head1 (Jvm.Cond.code x code maxLocals ret :: ws) room_1) (fun a U => a = #[(.int p0), (.int p1), (.int p2), (.int p3), (.int p4)] ∧ Z.Warmed39 U.vm ∧ U.heap = h0) (fun _ _ _ _ _ => True) (fun _ U o U' => ∃ v L, o = .returned v ∧ QT n0 v U'.heap L ∧ FrameEnd U o U' L room_1.cells room_1.slots) := by
  refine MetFree.of_bodySF (plainFor_of_name pn_hexwright_board_HexEqualsPinLaw) hisR ?_
  intro p e s m args below meth c s₁ Bd hml0 hP hK
  obtain ⟨rfl, hZ, hh⟩ := hP
  have hx := Bd.exec
  have hby := Bd.bytes
  have hml : c.maxLocals = 11 := hml0
  have hown : s.vm.findClass "hexwright/board/HexEqualsPinLaw" = some m.cls := findClass_of_methodNamed Bd.named
  have hnm := (name_of_methodNamed Bd.named Bd.method).1
  have X0 : Stand p l e room_1 s m #[(.int p0), (.int p1), (.int p2), (.int p3), (.int p4)] below meth c s₁ [] 0 0 := Stand.of_body Bd
  have e0 : s₁.heap = h0 := by rw [← hh, Bd.state]; rfl
  have N0 := Fr.nil n0
  obtain ⟨T1, h1, X1, e1, E1, A1, D1, -, st1⟩ := newO X0 hx hZ hown (tw_0 hw) (tw_1 hw) (tw_2 hw) e0 (g := (mkF m 36 #[.val (.int p0), .val (.int p1), .val (.int p2), .val (.int p3), .val (.int p4), .val (.int p0), .val (.int p1), .val (.int 3), .unset, .unset, .unset] [])) rfl (hb hby at_36) (by decide) (by decide)
  obtain ⟨b99, g1⟩ : ∃ z, z = h0.size := ⟨_, rfl⟩
  rw [← g1] at A1 D1 st1
  have sz_b99 : h0.size ≤ b99 := Nat.le_trans (Nat.le_refl _) (Nat.le_of_eq g1.symm)
  have g_b99 : n0 ≤ b99 := Nat.le_trans Z0 sz_b99
  have KK1 : Keep h0 h1 [] := (Keep.refl h0 []).ext E1
  have F1_15 : F_0 Z h1 b99 (.int 0) := D1 (Or.inr (tw_15 hw)) (ty := .int) (by decide)
  have F1_17 : F_1 Z h1 b99 (.int 0) := D1 (Or.inr (tw_17 hw)) (ty := .int) (by decide)
  -- pc 42: hexwright/board/Hex.<init>
  obtain ⟨_, _, ⟨T2, L2, k2, n2⟩, -, X2, ⟨Lc2, hQ2, l2, y2, z2⟩, st2⟩ := X1.specialBack hx (y := M_1) rfl hown (mvT hZ (tw_3 hw)) (mvT hZ (tw_4 hw)) (mvT hZ (tw_5 hw)) (by decide) (backOf (W := 1) (rm1_3 l Z a0 hw [] b99 p0 p1 h1 n0 (Nat.le_trans Z0 KK1.1) F1_15 A1 g_b99 F1_17) hZ (tw_5 hw) (tw_2 hw) (by decide) (by decide)) (g := (mkF m 42 #[.val (.int p0), .val (.int p1), .val (.int p2), .val (.int p3), .val (.int p4), .val (.int p0), .val (.int p1), .val (.int 3), .unset, .unset, .unset] [(.int p1), (.int p0), (.ref b99), (.ref b99)])) rfl (by rw [hml]; rfl) (Steps.refl _) (a := b99) (argsL := [(.int p0), (.int p1)]) (rest := [(.ref b99)]) (lenOf pd_1 rfl) rfl (by show 2 * 0 + _ ≤ _; exact Nat.le_of_eq rfl) (hb hby at_42) (fun _ _ => ⟨rfl, e1, (by decide : 1 + 0 ≤ _), (by decide : 2 + 0 ≤ _)⟩)
  dsimp only [Pt.U, Pt.locs, Pt.cells, Pt.slots] at X2 l2 y2 z2 st2 hQ2
  subst l2 y2 z2
  obtain ⟨rfl, Nq2, K2, o2_0, o2_1⟩ := hQ2
  have N2 := Fr.app N0 Nq2
  have KK2 : Keep h0 T2.heap [] := KK1.trans K2 (fun x hx => (List.mem_cons.mp hx).elim (fun q => q ▸ (Or.inr sz_b99)) (fun hx => nomatch hx))
  obtain ⟨T3, h3, X3, e3, E3, A3, D3, -, st3⟩ := newO X2 hx hZ hown (tw_0 hw) (tw_1 hw) (tw_2 hw) rfl (g := (mkF m 47 #[.val (.int p0), .val (.int p1), .val (.int p2), .val (.int p3), .val (.int p4), .val (.int p0), .val (.int p1), .val (.int 3), .val (.ref b99), .unset, .unset] [])) rfl (hb hby at_47) (by decide) (by decide)
  obtain ⟨b100, g3⟩ : ∃ z, z = T2.heap.size := ⟨_, rfl⟩
  rw [← g3] at A3 D3 st3
  have sz_b100 : h0.size ≤ b100 := Nat.le_trans KK2.1 (Nat.le_of_eq g3.symm)
  have g_b100 : n0 ≤ b100 := Nat.le_trans Z0 sz_b100
  have KK3 : Keep h0 h3 [] := KK2.ext E3
  have F3_15 : F_0 Z h3 b100 (.int 0) := D3 (Or.inr (tw_15 hw)) (ty := .int) (by decide)
  have F3_17 : F_1 Z h3 b100 (.int 0) := D3 (Or.inr (tw_17 hw)) (ty := .int) (by decide)
  -- pc 55: hexwright/board/Hex.<init>
  obtain ⟨_, _, ⟨T4, L4, k4, n4⟩, -, X4, ⟨Lc4, hQ4, l4, y4, z4⟩, st4⟩ := X3.specialBack hx (y := M_1) rfl hown (mvT hZ (tw_3 hw)) (mvT hZ (tw_4 hw)) (mvT hZ (tw_5 hw)) (by decide) (backOf (W := 1) (rm1_3 l Z a0 hw [] b100 p0 p1 h3 n0 (Nat.le_trans Z0 KK3.1) F3_15 A3 g_b100 F3_17) hZ (tw_5 hw) (tw_2 hw) (by decide) (by decide)) (g := (mkF m 55 #[.val (.int p0), .val (.int p1), .val (.int p2), .val (.int p3), .val (.int p4), .val (.int p0), .val (.int p1), .val (.int 3), .val (.ref b99), .unset, .unset] [(.int p1), (.int p0), (.ref b100), (.ref b100)])) rfl (by rw [hml]; rfl) (Steps.refl _) (a := b100) (argsL := [(.int p0), (.int p1)]) (rest := [(.ref b100)]) (lenOf pd_1 rfl) rfl (by show 2 * 0 + _ ≤ _; exact Nat.le_of_eq rfl) (hb hby at_55) (fun _ _ => ⟨rfl, e3, (by decide : 2 + 0 ≤ _), (by decide : 4 + 0 ≤ _)⟩)
  dsimp only [Pt.U, Pt.locs, Pt.cells, Pt.slots] at X4 l4 y4 z4 st4 hQ4
  subst l4 y4 z4
  obtain ⟨rfl, Nq4, K4, o4_0, o4_1⟩ := hQ4
  have N4 := Fr.app N2 Nq4
  have KK4 : Keep h0 T4.heap [] := KK3.trans K4 (fun x hx => (List.mem_cons.mp hx).elim (fun q => q ▸ (Or.inr sz_b100)) (fun hx => nomatch hx))
  -- pc 163: hexwright/board/Hex.equals
  have u5 : E_1 Z T2.heap b99 := Exa.keep A1 K2
  have u6 : E_1 Z h3 b99 := Exa.ext E3 u5
  have u7 : E_1 Z T4.heap b99 := Exa.keep u6 K4
  have u8 : F_0 Z h3 b99 (.int p0) := Fld.ext E3 o2_0
  have ne9 : b99 ≠ b100 := Nat.ne_of_lt (Nat.lt_of_lt_of_le (Exa.lt u5) (Nat.le_of_eq g3.symm))
  have u10 : F_0 Z T4.heap b99 (.int p0) := Fld.keep u8 K4 (own_notin ne9 List.not_mem_nil)
  have u11 : F_1 Z h3 b99 (.int p1) := Fld.ext E3 o2_1
  have u12 : F_1 Z T4.heap b99 (.int p1) := Fld.keep u11 K4 (own_notin ne9 List.not_mem_nil)
  obtain ⟨cq13, kq13, q13a, q13b, q13c⟩ := isOf hZ rfl u7
  obtain ⟨_, _, ⟨T13, L13, k13, n13⟩, -, X13, ⟨Lc13, hQ13, l13, y13, z13⟩, st13⟩ := X4.virtualBack hx (y := M_2) (z := M_2) hown (mvT hZ (tw_18 hw)) (mvT hZ (tw_19 hw)) (notFace_of_selects (args := #[]) (mvT hZ (tw_21 hw))) (mvT hZ (tw_21 hw)) (mvT hZ (tw_20 hw)) (by decide) (backOf (W := 0) (rm4_44 l Z a0 hw [] b99 p0 p1 T4.heap n0 (Nat.le_trans Z0 KK4.1) u7 u10 u12) hZ (tw_22 hw) (tw_2 hw) (by decide) (by decide)) q13a q13c (g := (mkF m 163 #[.val (.int p0), .val (.int p1), .val (.int p2), .val (.int p3), .val (.int p4), .val (.int p0), .val (.int p1), .val (.int 3), .val (.ref b99), .val (.ref b100), .unset] [(.ref b99), (.ref b99)])) rfl (by rw [hml]; rfl) (Steps.refl _) (argsL := [(.ref b99)]) (rest := []) (lenOf pd_2 rfl) rfl (by show 2 * 0 + _ ≤ _; exact Nat.le_of_eq rfl) (hb hby at_163) (fun _ _ => ⟨rfl, rfl, (by decide : 2 + 0 ≤ _), (by decide : 4 + 0 ≤ _)⟩)
  dsimp only [Pt.U, Pt.locs, Pt.cells, Pt.slots] at X13 l13 y13 z13 st13 hQ13
  subst l13 y13 z13
  obtain ⟨rfl, Nq13, e13⟩ := hQ13
  have N13 := Fr.app N4 Nq13
  obtain ⟨fs, hr, hrun, hended, hW, hsame⟩ := X13.leave (v := (some (.int 1))) (fun h => by rw [Bd.returns] at h; cases h)
  refine ⟨_, _, castTop (ef0_IIIII m p0 p1 p2 p3 p4) ?_, hrun, hended, _, _, rfl, ?_, ⟨_, rfl⟩, hW, hsame.mono (by decide) (by decide)⟩
  · show Steps p.tables e below (s₁.setTop (mkF m 0 #[.val (.int p0), .val (.int p1), .val (.int p2), .val (.int p3), .val (.int p4), .unset, .unset, .unset, .unset, .unset, .unset] [])) _
    refine XS.iload X0.here hx rfl (hb hby at_0) rfl ?_
    refine XS.iconst X0.here hx rfl (hb hby at_2) ?_
    show Steps p.tables e below (s₁.setTop (mkF m 3 #[.val (.int p0), .val (.int p1), .val (.int p2), .val (.int p3), .val (.int p4), .unset, .unset, .unset, .unset, .unset, .unset] [(.int 1), (.int p4)])) _
    refine XS.iand X0.here hx rfl (hb hby at_3) rfl ?_
    refine XS.ifNo X0.here hx rfl (hb hby at_4) rfl ((if0 _ _).trans (feq (f1 : ¬ ((p4 &&& (1 : Int32)) = (0 : Int32)))).1) ?_
    refine XS.iloadN X0.here hx rfl (hb hby at_7) rfl ?_
    refine XS.goto X0.here hx rfl (pc0 := 8) (pc' := 12) rfl (hb hby at_8) (by decide) (by decide) ?_
    refine XS.istore X0.here hx rfl (hb hby at_12) rfl (l' := #[.val (.int p0), .val (.int p1), .val (.int p2), .val (.int p3), .val (.int p4), .val (.int p0), .unset, .unset, .unset, .unset, .unset]) rfl ?_
    show Steps p.tables e below (s₁.setTop (mkF m 14 #[.val (.int p0), .val (.int p1), .val (.int p2), .val (.int p3), .val (.int p4), .val (.int p0), .unset, .unset, .unset, .unset, .unset] [])) _
    refine XS.iload X0.here hx rfl (hb hby at_14) rfl ?_
    refine XS.iconst X0.here hx rfl (hb hby at_16) ?_
    show Steps p.tables e below (s₁.setTop (mkF m 17 #[.val (.int p0), .val (.int p1), .val (.int p2), .val (.int p3), .val (.int p4), .val (.int p0), .unset, .unset, .unset, .unset, .unset] [(.int 2), (.int p4)])) _
    refine XS.iand X0.here hx rfl (hb hby at_17) rfl ?_
    refine XS.ifNo X0.here hx rfl (hb hby at_18) rfl ((if0 _ _).trans (feq (f2 : ¬ ((p4 &&& (2 : Int32)) = (0 : Int32)))).1) ?_
    refine XS.iloadN X0.here hx rfl (hb hby at_21) rfl ?_
    refine XS.goto X0.here hx rfl (pc0 := 22) (pc' := 26) rfl (hb hby at_22) (by decide) (by decide) ?_
    refine XS.istore X0.here hx rfl (hb hby at_26) rfl (l' := #[.val (.int p0), .val (.int p1), .val (.int p2), .val (.int p3), .val (.int p4), .val (.int p0), .val (.int p1), .unset, .unset, .unset, .unset]) rfl ?_
    show Steps p.tables e below (s₁.setTop (mkF m 28 #[.val (.int p0), .val (.int p1), .val (.int p2), .val (.int p3), .val (.int p4), .val (.int p0), .val (.int p1), .unset, .unset, .unset, .unset] [])) _
    refine XS.iload X0.here hx rfl (hb hby at_28) rfl ?_
    refine XS.iconst X0.here hx rfl (hb hby at_30) ?_
    show Steps p.tables e below (s₁.setTop (mkF m 31 #[.val (.int p0), .val (.int p1), .val (.int p2), .val (.int p3), .val (.int p4), .val (.int p0), .val (.int p1), .unset, .unset, .unset, .unset] [(.int 2), (.int p4)])) _
    refine XS.iushr X0.here hx rfl (hb hby at_31) rfl ?_
    refine XS.iconst X0.here hx rfl (hb hby at_32) ?_
    show Steps p.tables e below (s₁.setTop (mkF m 33 #[.val (.int p0), .val (.int p1), .val (.int p2), .val (.int p3), .val (.int p4), .val (.int p0), .val (.int p1), .unset, .unset, .unset, .unset] [(.int 3), (.int ((p4.toUInt32 >>> ((2 : Int32) &&& 31).toUInt32).toInt32))])) _
    refine XS.iand X0.here hx rfl (hb hby at_33) rfl ?_
    show Steps p.tables e below (s₁.setTop (mkF m 34 #[.val (.int p0), .val (.int p1), .val (.int p2), .val (.int p3), .val (.int p4), .val (.int p0), .val (.int p1), .unset, .unset, .unset, .unset] [(.int (((p4.toUInt32 >>> ((2 : Int32) &&& 31).toUInt32).toInt32) &&& (3 : Int32)))])) _
    rw [f3]
    refine XS.istore X0.here hx rfl (hb hby at_34) rfl (l' := #[.val (.int p0), .val (.int p1), .val (.int p2), .val (.int p3), .val (.int p4), .val (.int p0), .val (.int p1), .val (.int 3), .unset, .unset, .unset]) rfl ?_
    show Steps p.tables e below (s₁.setTop (mkF m 36 #[.val (.int p0), .val (.int p1), .val (.int p2), .val (.int p3), .val (.int p4), .val (.int p0), .val (.int p1), .val (.int 3), .unset, .unset, .unset] [])) _
    refine st1 _ ?_
    refine XS.dup X1.here hx rfl (hb hby at_39) rfl rfl ?_
    refine XS.iloadN X1.here hx rfl (hb hby at_40) rfl ?_
    refine XS.iloadN X1.here hx rfl (hb hby at_41) rfl ?_
    show Steps p.tables e below (T1.setTop (mkF m 42 #[.val (.int p0), .val (.int p1), .val (.int p2), .val (.int p3), .val (.int p4), .val (.int p0), .val (.int p1), .val (.int 3), .unset, .unset, .unset] [(.int p1), (.int p0), (.ref b99), (.ref b99)])) _
    refine st2.trans ?_
    refine XS.astore X2.here hx rfl (hb hby at_45) rfl rfl (l' := #[.val (.int p0), .val (.int p1), .val (.int p2), .val (.int p3), .val (.int p4), .val (.int p0), .val (.int p1), .val (.int 3), .val (.ref b99), .unset, .unset]) rfl ?_
    show Steps p.tables e below (T2.setTop (mkF m 47 #[.val (.int p0), .val (.int p1), .val (.int p2), .val (.int p3), .val (.int p4), .val (.int p0), .val (.int p1), .val (.int 3), .val (.ref b99), .unset, .unset] [])) _
    refine st3 _ ?_
    refine XS.dup X3.here hx rfl (hb hby at_50) rfl rfl ?_
    refine XS.iload X3.here hx rfl (hb hby at_51) rfl ?_
    refine XS.iload X3.here hx rfl (hb hby at_53) rfl ?_
    show Steps p.tables e below (T3.setTop (mkF m 55 #[.val (.int p0), .val (.int p1), .val (.int p2), .val (.int p3), .val (.int p4), .val (.int p0), .val (.int p1), .val (.int 3), .val (.ref b99), .unset, .unset] [(.int p1), (.int p0), (.ref b100), (.ref b100)])) _
    refine st4.trans ?_
    refine XS.astore X4.here hx rfl (hb hby at_58) rfl rfl (l' := #[.val (.int p0), .val (.int p1), .val (.int p2), .val (.int p3), .val (.int p4), .val (.int p0), .val (.int p1), .val (.int 3), .val (.ref b99), .val (.ref b100), .unset]) rfl ?_
    refine XS.iload X4.here hx rfl (hb hby at_60) rfl ?_
    refine XS.ifYes X4.here hx rfl (pc0 := 62) (pc' := 114) rfl (hb hby at_62) rfl (by decide) (by decide) (by decide) ?_
    refine XS.iload X4.here hx rfl (hb hby at_114) rfl ?_
    show Steps p.tables e below (T4.setTop (mkF m 116 #[.val (.int p0), .val (.int p1), .val (.int p2), .val (.int p3), .val (.int p4), .val (.int p0), .val (.int p1), .val (.int 3), .val (.ref b99), .val (.ref b100), .unset] [(.int 3)])) _
    refine XS.iconst X4.here hx rfl (hb hby at_116) ?_
    refine XS.icmpYes X4.here hx rfl (pc0 := 117) (pc' := 135) rfl (hb hby at_117) rfl (by decide) (by decide) (by decide) ?_
    refine XS.iload X4.here hx rfl (hb hby at_135) rfl ?_
    refine XS.iconst X4.here hx rfl (hb hby at_137) ?_
    refine XS.icmpYes X4.here hx rfl (pc0 := 138) (pc' := 159) rfl (hb hby at_138) rfl (by decide) (by decide) (by decide) ?_
    show Steps p.tables e below (T4.setTop (mkF m 159 #[.val (.int p0), .val (.int p1), .val (.int p2), .val (.int p3), .val (.int p4), .val (.int p0), .val (.int p1), .val (.int 3), .val (.ref b99), .val (.ref b100), .unset] [])) _
    refine XS.aload X4.here hx rfl (hb hby at_159) rfl rfl ?_
    refine XS.aload X4.here hx rfl (hb hby at_161) rfl rfl ?_
    show Steps p.tables e below (T4.setTop (mkF m 163 #[.val (.int p0), .val (.int p1), .val (.int p2), .val (.int p3), .val (.int p4), .val (.int p0), .val (.int p1), .val (.int 3), .val (.ref b99), .val (.ref b100), .unset] [(.ref b99), (.ref b99)])) _
    refine st13.trans ?_
    show Steps p.tables e below (T13.setTop (mkF m 166 #[.val (.int p0), .val (.int p1), .val (.int p2), .val (.int p3), .val (.int p4), .val (.int p0), .val (.int p1), .val (.int 3), .val (.ref b99), .val (.ref b100), .unset] [(.int 1)])) _
    exact retN X13 hx (t := .boolean) Bd.returns (by simp) (hb hby at_166) hr
  · show QT n0 _ T13.heap _
    rw [e13]
    exact ⟨rfl, N13⟩
set_option maxRecDepth 65536 in
set_option maxHeartbeats 40000000 in
theorem comes_1 {Post : Tables → Env → Array Value → State → Outcome → State → Prop} (hpost : ∀ tb e args s v u, (limb_1_1.after args s (.returned v) u = true ∧ limb_1_2.after args s (.returned v) u = true ∧ True) → FrameEnd s (.returned v) u (Jvm.fieldLocs frame_1_writes args s ++ Jvm.arrayLocs frame_1_arrays args s ++ Jvm.staticLocs frame_1_statics s) 16 128 → Post tb e args s (.returned v) u) :
    ArmFor flags0 classFile x code maxLocals ret World_1 tables_1 room_1 Calls_1 rest_1 Pre_1 Post := by
  intro l hfl _ _ p e ha hc hk s m args below hf hA hF happ hP
  obtain ⟨hcalls, hrest, hpre⟩ := hP
  obtain ⟨-, -, -, hnamed, -, -, -, hat⟩ := (Spec.applies_iff hf).mp happ
  obtain ⟨hg, hn⟩ := and_e (Cond.before_iff.mp (show (Jvm.Cond.and given_1 narrow_1).before args s = true from hpre))
  obtain ⟨k102, k103⟩ := and_e hg
  obtain ⟨k104, k105⟩ := and_e k103
  obtain ⟨k106, k107⟩ := and_e k105
  obtain ⟨k108, k109⟩ := and_e k107
  obtain ⟨k110, k111⟩ := and_e k109
  obtain ⟨w0, w1, w2, w3, w4, rfl⟩ : ∃ w0 w1 w2 w3 w4 : Value, args = #[w0, w1, w2, w3, w4] := by
    have hs : args.size = 5 := by simpa [Cond.value, given_1] using k102
    obtain ⟨L⟩ := args
    match L, hs with
    | [w0, w1, w2, w3, w4], _ => exact ⟨w0, w1, w2, w3, w4, rfl⟩
  have hw := fun d (hd : d ∈ tables_1) => atoms_spec (ws := Jvm.Cond.code x code maxLocals ret :: tables_1) hat d (List.mem_cons_of_mem _ hd)
  have hfit : Fit s := fun {y c} hc i hi => by
    obtain ⟨ha, rfl⟩ := Array.getElem?_eq_some_iff.mp hc
    have q := List.all_eq_true.mp ((Array.all_eq_true_iff_forall_mem.mp hF) _ (Array.getElem_mem ha)) i (List.mem_range.mpr hi)
    simpa [Array.getElem?_eq_getElem hi] using q
  obtain ⟨p0, ei0⟩ := is_v k104
  obtain rfl : w0 = (.int p0) := Option.some.inj ei0
  obtain ⟨p1, ei1⟩ := is_v k106
  obtain rfl : w1 = (.int p1) := Option.some.inj ei1
  obtain ⟨p2, ei2⟩ := is_v k108
  obtain rfl : w2 = (.int p2) := Option.some.inj ei2
  obtain ⟨p3, ei3⟩ := is_v k110
  obtain rfl : w3 = (.int p3) := Option.some.inj ei3
  obtain ⟨p4, ei4⟩ := is_v k111
  obtain rfl : w4 = (.int p4) := Option.some.inj ei4
  obtain ⟨hsets, hown0⟩ := atoms_of _ (rest_1_c_eq ▸ (show rest_1_c.before _ s = true from hrest))
  have hr0 := Cond.before_iff.mp hown0
  have S_high : Sta s s.heap "java/lang/Integer$IntegerCache" "high" "I" (.int (127 : Int32)) := Sta.start (own_sti (Cond.before_iff.mp (hsets _ (List.mem_of_getElem? (i := 3) rfl)))) (Or.inl (hsets _ (List.mem_of_getElem? (i := 1) rfl)))
  obtain ⟨a_cache, ev_a_cache⟩ := exa_v (Cond.before_iff.mp (hsets _ (List.mem_of_getElem? (i := 5) rfl)))
  have S_a_cache : Sta s s.heap "java/lang/Integer$IntegerCache" "cache" "[Ljava/lang/Integer;" (.ref a_cache) := Sta.start ev_a_cache (Or.inr ⟨(tw_30 hw), (hsets _ (List.mem_of_getElem? (i := 2) rfl))⟩)
  have E_a_cache : Exa s s.heap a_cache "[Ljava/lang/Integer;" := Exa.start ev_a_cache (Cond.before_iff.mp (hsets _ (List.mem_of_getElem? (i := 5) rfl)))
  have A_a_cache : OwnAll s s.heap a_cache "java/lang/Integer" := own_all_start (fun _ => ev_a_cache) (Cond.before_iff.mp (hsets _ (List.mem_of_getElem? (i := 4) rfl))) (hsets _ (List.mem_of_getElem? (i := 6) rfl)) (Cond.before_iff.mp (hsets _ (List.mem_of_getElem? (i := 7) rfl)))
  have M : MetFree l x (head1 (Jvm.Cond.code x code maxLocals ret :: tables_1) room_1) (fun a U => a = #[(.int p0), (.int p1), (.int p2), (.int p3), (.int p4)] ∧ s.Warmed39 U.vm ∧ U.heap = s.heap) (fun _ _ _ _ _ => True) (fun _ U o U' => ∃ v L, o = .returned v ∧ QT s.heap.size v U'.heap L ∧ FrameEnd U o U' L room_1.cells room_1.slots) := by
    by_cases hb1 : (p4 &&& (1 : Int32)) = (0 : Int32)
    · by_cases hb2 : (p4 &&& (2 : Int32)) = (0 : Int32)
      · rcases own_and3 ((p4.toUInt32 >>> ((2 : Int32) &&& 31).toUInt32).toInt32) with hk | hk | hk | hk
        · by_cases hq : p2 = p0
          · by_cases hr : p3 = p1
            · exact rm0_10 l s _ hw tables_1 p0 p1 p2 p3 p4 s.heap s.heap.size (Nat.le_refl _) hb1 hb2 hk hq hr hq.symm hr.symm
            · exact rm0_15 l s _ hw tables_1 p0 p1 p2 p3 p4 s.heap s.heap.size (Nat.le_refl _) hb1 hb2 hk hq hr hq.symm (fun z => hr z.symm)
          · exact rm0_20 l s _ hw tables_1 p0 p1 p2 p3 p4 s.heap s.heap.size (Nat.le_refl _) hb1 hb2 hk hq (fun z => hq z.symm)
        · exact rm0_24 l s _ hw tables_1 p0 p1 p2 p3 p4 s.heap s.heap.size (Nat.le_refl _) hb1 hb2 hk
        · exact rm0_41 l s _ hw tables_1 p0 p1 p2 p3 p4 a_cache s.heap s.heap.size (Nat.le_refl _) hb1 hb2 hk S_high S_a_cache A_a_cache E_a_cache
        · exact rm0_45 l s _ hw tables_1 p0 p1 p2 p3 p4 s.heap s.heap.size (Nat.le_refl _) hb1 hb2 hk
      · rcases own_and3 ((p4.toUInt32 >>> ((2 : Int32) &&& 31).toUInt32).toInt32) with hk | hk | hk | hk
        · by_cases hq : p2 = p0
          · exact rm0_52 l s _ hw tables_1 p0 p1 p2 p3 p4 s.heap s.heap.size (Nat.le_refl _) hb1 hb2 hk hq hq.symm
          · exact rm0_55 l s _ hw tables_1 p0 p1 p2 p3 p4 s.heap s.heap.size (Nat.le_refl _) hb1 hb2 hk hq (fun z => hq z.symm)
        · exact rm0_58 l s _ hw tables_1 p0 p1 p2 p3 p4 s.heap s.heap.size (Nat.le_refl _) hb1 hb2 hk
        · exact rm0_62 l s _ hw tables_1 p0 p1 p2 p3 p4 a_cache s.heap s.heap.size (Nat.le_refl _) hb1 hb2 hk S_high S_a_cache A_a_cache E_a_cache
        · exact rm0_65 l s _ hw tables_1 p0 p1 p2 p3 p4 s.heap s.heap.size (Nat.le_refl _) hb1 hb2 hk
    · by_cases hb2 : (p4 &&& (2 : Int32)) = (0 : Int32)
      · rcases own_and3 ((p4.toUInt32 >>> ((2 : Int32) &&& 31).toUInt32).toInt32) with hk | hk | hk | hk
        · by_cases hr : p3 = p1
          · exact rm0_72 l s _ hw tables_1 p0 p1 p2 p3 p4 s.heap s.heap.size (Nat.le_refl _) hb1 hb2 hk hr hr.symm
          · exact rm0_77 l s _ hw tables_1 p0 p1 p2 p3 p4 s.heap s.heap.size (Nat.le_refl _) hb1 hb2 hk hr (fun z => hr z.symm)
        · exact rm0_80 l s _ hw tables_1 p0 p1 p2 p3 p4 s.heap s.heap.size (Nat.le_refl _) hb1 hb2 hk
        · exact rm0_84 l s _ hw tables_1 p0 p1 p2 p3 p4 a_cache s.heap s.heap.size (Nat.le_refl _) hb1 hb2 hk S_high S_a_cache A_a_cache E_a_cache
        · exact rm0_87 l s _ hw tables_1 p0 p1 p2 p3 p4 s.heap s.heap.size (Nat.le_refl _) hb1 hb2 hk
      · rcases own_and3 ((p4.toUInt32 >>> ((2 : Int32) &&& 31).toUInt32).toInt32) with hk | hk | hk | hk
        · exact rm0_91 l s _ hw tables_1 p0 p1 p2 p3 p4 s.heap s.heap.size (Nat.le_refl _) hb1 hb2 hk
        · exact rm0_94 l s _ hw tables_1 p0 p1 p2 p3 p4 s.heap s.heap.size (Nat.le_refl _) hb1 hb2 hk
        · exact rm0_98 l s _ hw tables_1 p0 p1 p2 p3 p4 a_cache s.heap s.heap.size (Nat.le_refl _) hb1 hb2 hk S_high S_a_cache A_a_cache E_a_cache
        · exact rm0_101 l s _ hw tables_1 p0 p1 p2 p3 p4 s.heap s.heap.size (Nat.le_refl _) hb1 hb2 hk
  obtain ⟨n, o, h1, h2, h3, _, L, rfl, ⟨rfl, N⟩, hq⟩ := M p e ha hc hk s m _ below hf ((Spec.applies_iff_loose hf).mp happ).1 ⟨rfl, State.Warmed39.refl s, rfl⟩ trivial
  refine ⟨n, _, h1, h2, h3, hpost _ _ _ _ _ _ ⟨Cond.after_iff.mpr rfl, Cond.after_iff.mpr (eq_i res_at (Term.int_eval (1)) rfl), trivial⟩ ⟨hq.1, hq.2.1, (hq.2.2.sift fun y hy => Or.inr (N y hy)).mono (by decide) (by decide)⟩⟩
theorem main_1_1 : Claimed_1_1 := comes_1 fun _ _ _ _ _ _ h hF => ⟨h.1, hF⟩
theorem main_1_2 : Claimed_1_2 := comes_1 fun _ _ _ _ _ _ h hF => ⟨h.2.1, hF⟩
end Jvm.Pilot.@@N@@
namespace Jvm.Pilot.@@N@@
open Jvm Jvm.ClassFile Sem Op Lib Jvm.Free Jvm.Stand Jvm.Pilot.@@N@@.Jvm.D
/-! MADE BY PROGRAM (witnessworld.py) out of the Statement's table words and the real class files: 17 classes; the members and pool entries that the words name. The judged class is class 1, her method 1. -/
namespace start1
open Jvm.ClassFile
def u (s : String) : CpInfo := .utf8 (stringToUtf16 s)
/-- a pool by its gaps: so many unusable entries, then the entry; so many at the end -/
def gap : Nat → List CpInfo → List CpInfo
  | 0, r => r
  | n + 1, r => .unusable :: gap n r
def poolList (es : List (Nat × CpInfo)) (last : Nat) : List CpInfo := es.foldr (fun e r => gap e.1 (e.2 :: r)) (gap last [])
def pool (es : List (Nat × CpInfo)) (last : Nat) : Array CpInfo := ⟨poolList es last⟩
def fileOf (pool : Array CpInfo) (this : Nat) (attrs : Array Attribute := #[]) (ms : Array MethodInfo := #[]) (fl : Nat := 33) (sup : Nat := 0) (ifs : Array Nat := #[]) (fds : Array FieldInfo := #[]) : ClassFile where
  minorVersion := 0
  majorVersion := 65
  constantPool := pool
  accessFlags := fl
  thisClass := this
  superClass := sup
  interfaces := ifs
  fields := fds
  methods := ms
  attributes := attrs
def plain (name : String) (sup : Option ClassId) : Class where
  name := name
  kind := .ordinary
  loader := none
  accessFlags := 33
  super := sup
  interfaces := #[]
  cf := none
  fields := #[]
  methods := #[]
  instanceTypes := #[]
  staticTypes := #[]
  resolved := #[]
  callSites := []
  init := .initialized
  statics := none
  mirror := none

def pool0 : Array CpInfo := pool [(5, u "<init>"), (0, u "()V"), (1, .class_ 10), (1, u "java/lang/Object")] 113

def k0c0 : Code := { maxStack := 0, maxLocals := 1, code := object_method_1_code, exceptionTable := #[], attributes := #[] }
def k0m0 : Method := { name := "<init>", desc := "()V", sig := { parameters := [], returnType := none }, accessFlags := 1, code := some k0c0 }
/-- java/lang/Object -/
def k0 : Class := { plain "java/lang/Object" none with
  accessFlags := 33
  interfaces := #[]
  cf := some (fileOf pool0 8 #[] #[{ accessFlags := 1, nameIndex := 5, descriptorIndex := 6, attributes := #[] }] 33 0 #[] #[])
  fields := #[]
  methods := #[k0m0]
  instanceTypes := #[]
  staticTypes := #[]
  resolved := Array.replicate 124 none
  statics := none }

def pool1 : Array CpInfo := pool [(2, .class_ 4), (1, u "java/lang/Object"), (0, u "<init>"), (0, u "()V"), (0, .class_ 8), (0, u "hexwright/board/Hex"), (0, .methodref 7 10), (0, .nameAndType 5 11), (0, u "(II)V"), (0, .methodref 7 13), (0, .nameAndType 14 15), (0, u "equals"), (0, u "(Ljava/lang/Object;)Z"), (0, .methodref 17 18), (0, .class_ 19), (0, .nameAndType 20 21), (0, u "java/lang/Integer"), (0, u "valueOf"), (0, u "(I)Ljava/lang/Integer;"), (0, .class_ 23), (0, u "hexwright/board/HexEqualsPinLaw"), (2, u "law"), (0, u "(IIIII)Z")] 3

def k1m0 : Method := { name := "<init>", desc := "()V", sig := { parameters := [], returnType := none }, accessFlags := 1, code := none }
def k1c1 : Code := { maxStack := 4, maxLocals := 11, code := code, exceptionTable := #[], attributes := #[] }
def k1m1 : Method := { name := "law", desc := "(IIIII)Z", sig := { parameters := [.int, .int, .int, .int, .int], returnType := some .boolean }, accessFlags := 9, code := some k1c1 }
/-- hexwright/board/HexEqualsPinLaw -/
def k1 : Class := { plain "hexwright/board/HexEqualsPinLaw" (some 0) with
  accessFlags := 49
  interfaces := #[]
  cf := some (fileOf pool1 22 #[] #[{ accessFlags := 1, nameIndex := 5, descriptorIndex := 6, attributes := #[] }, { accessFlags := 9, nameIndex := 26, descriptorIndex := 27, attributes := #[] }] 49 2 #[] #[])
  fields := #[]
  methods := #[k1m0, k1m1]
  instanceTypes := #[]
  staticTypes := #[]
  resolved := Array.replicate 31 none
  statics := none }

def pool2 : Array CpInfo := pool [(1, .methodref 2 3), (0, .class_ 4), (0, .nameAndType 5 6), (0, u "java/lang/Object"), (0, u "<init>"), (0, u "()V"), (0, .class_ 8), (0, u "java/lang/Record")] 13

def k2c0 : Code := { maxStack := 1, maxLocals := 1, code := jdk_30_method_1_code, exceptionTable := #[], attributes := #[] }
def k2m0 : Method := { name := "<init>", desc := "()V", sig := { parameters := [], returnType := none }, accessFlags := 4, code := some k2c0 }
/-- java/lang/Record -/
def k2 : Class := { plain "java/lang/Record" (some 0) with
  accessFlags := 1057
  interfaces := #[]
  cf := some (fileOf pool2 7 #[] #[{ accessFlags := 4, nameIndex := 5, descriptorIndex := 6, attributes := #[] }] 1057 2 #[] #[])
  fields := #[]
  methods := #[k2m0]
  instanceTypes := #[]
  staticTypes := #[]
  resolved := Array.replicate 22 none
  statics := none }

def pool3 : Array CpInfo := pool [(1, .methodref 2 3), (0, .class_ 4), (0, .nameAndType 5 6), (0, u "java/lang/Record"), (0, u "<init>"), (0, u "()V"), (0, .fieldref 8 9), (0, .class_ 10), (0, .nameAndType 11 12), (0, u "hexwright/board/Hex"), (0, u "q"), (0, u "I"), (0, .fieldref 8 14), (0, .nameAndType 15 12), (0, u "r"), (4, u "STEPS"), (0, u "[[I"), (5, u "(II)V"), (5, u "(Ljava/lang/Object;)Z"), (56, u "ORIGIN"), (0, u "Lhexwright/board/Hex;"), (12, u "equals")] 23

def k3c0 : Code := { maxStack := 2, maxLocals := 3, code := prog_3_method_1_code, exceptionTable := #[], attributes := #[] }
def k3m0 : Method := { name := "<init>", desc := "(II)V", sig := { parameters := [.int, .int], returnType := none }, accessFlags := 1, code := some k3c0 }
def k3c1 : Code := { maxStack := 2, maxLocals := 3, code := prog_3_method_4_code, exceptionTable := #[], attributes := #[] }
def k3m1 : Method := { name := "equals", desc := "(Ljava/lang/Object;)Z", sig := { parameters := [(.object "java/lang/Object")], returnType := some .boolean }, accessFlags := 1, code := some k3c1 }
/-- hexwright/board/Hex -/
def k3 : Class := { plain "hexwright/board/Hex" (some 2) with
  accessFlags := 49
  interfaces := #[]
  cf := some (fileOf pool3 8 #[] #[{ accessFlags := 1, nameIndex := 5, descriptorIndex := 27, attributes := #[] }, { accessFlags := 1, nameIndex := 104, descriptorIndex := 33, attributes := #[] }] 49 2 #[] #[{ accessFlags := 18, nameIndex := 11, descriptorIndex := 12, attributes := #[] }, { accessFlags := 18, nameIndex := 15, descriptorIndex := 12, attributes := #[] }, { accessFlags := 25, nameIndex := 90, descriptorIndex := 91, attributes := #[] }, { accessFlags := 26, nameIndex := 20, descriptorIndex := 21, attributes := #[] }])
  fields := #[{ name := "q", type := .int, accessFlags := 18, slot := 0, constantValue := 0 }, { name := "r", type := .int, accessFlags := 18, slot := 1, constantValue := 0 }, { name := "ORIGIN", type := (.object "hexwright/board/Hex"), accessFlags := 25, slot := 0, constantValue := 0 }, { name := "STEPS", type := (.array (.array .int)), accessFlags := 26, slot := 1, constantValue := 0 }]
  methods := #[k3m0, k3m1]
  instanceTypes := #[.int, .int]
  staticTypes := #[(.object "hexwright/board/Hex"), (.array (.array .int))]
  resolved := Array.replicate 128 none
  statics := none }

def pool4 : Array CpInfo := pool [(1, .class_ 2), (0, u "java/io/Serializable"), (0, .class_ 4), (0, u "java/lang/Object")] 2

/-- java/io/Serializable -/
def k4 : Class := { plain "java/io/Serializable" (some 0) with
  accessFlags := 1537
  interfaces := #[]
  cf := some (fileOf pool4 1 #[] #[] 1537 3 #[] #[])
  fields := #[]
  methods := #[]
  instanceTypes := #[]
  staticTypes := #[]
  resolved := Array.replicate 7 none
  statics := none }

def pool5 : Array CpInfo := pool [(1, .methodref 2 3), (0, .class_ 4), (0, .nameAndType 5 6), (0, u "java/lang/Object"), (0, u "<init>"), (0, u "()V"), (1, .class_ 10), (1, u "java/lang/Number"), (2, .class_ 14), (0, u "java/io/Serializable"), (0, u "serialVersionUID"), (0, u "J")] 20

def k5c0 : Code := { maxStack := 1, maxLocals := 1, code := jdk_18_method_1_code, exceptionTable := #[], attributes := #[] }
def k5m0 : Method := { name := "<init>", desc := "()V", sig := { parameters := [], returnType := none }, accessFlags := 1, code := some k5c0 }
/-- java/lang/Number -/
def k5 : Class := { plain "java/lang/Number" (some 0) with
  accessFlags := 1057
  interfaces := #[4]
  cf := some (fileOf pool5 8 #[] #[{ accessFlags := 1, nameIndex := 5, descriptorIndex := 6, attributes := #[] }] 1057 2 #[13] #[{ accessFlags := 26, nameIndex := 15, descriptorIndex := 16, attributes := #[] }])
  fields := #[{ name := "serialVersionUID", type := .long, accessFlags := 26, slot := 0, constantValue := 0 }]
  methods := #[k5m0]
  instanceTypes := #[]
  staticTypes := #[.long]
  resolved := Array.replicate 37 none
  statics := none }

def pool6 : Array CpInfo := pool [(1, .class_ 2), (0, u "java/lang/Comparable"), (0, .class_ 4), (0, u "java/lang/Object")] 7

/-- java/lang/Comparable -/
def k6 : Class := { plain "java/lang/Comparable" (some 0) with
  accessFlags := 1537
  interfaces := #[]
  cf := some (fileOf pool6 1 #[] #[] 1537 3 #[] #[])
  fields := #[]
  methods := #[]
  instanceTypes := #[]
  staticTypes := #[]
  resolved := Array.replicate 12 none
  statics := none }

def pool7 : Array CpInfo := pool [(1, .class_ 2), (0, u "java/lang/constant/Constable"), (0, .class_ 4), (0, u "java/lang/Object")] 6

/-- java/lang/constant/Constable -/
def k7 : Class := { plain "java/lang/constant/Constable" (some 0) with
  accessFlags := 1537
  interfaces := #[]
  cf := some (fileOf pool7 1 #[] #[] 1537 3 #[] #[])
  fields := #[]
  methods := #[]
  instanceTypes := #[]
  staticTypes := #[]
  resolved := Array.replicate 11 none
  statics := none }

def pool8 : Array CpInfo := pool [(1, .class_ 2), (0, u "java/lang/constant/ConstantDesc"), (0, .class_ 4), (0, u "java/lang/Object")] 32

/-- java/lang/constant/ConstantDesc -/
def k8 : Class := { plain "java/lang/constant/ConstantDesc" (some 0) with
  accessFlags := 1537
  interfaces := #[]
  cf := some (fileOf pool8 1 #[] #[] 1537 3 #[] #[])
  fields := #[]
  methods := #[]
  instanceTypes := #[]
  staticTypes := #[]
  resolved := Array.replicate 37 none
  statics := none }

def pool9 : Array CpInfo := pool [(1, .class_ 2), (0, u "java/lang/Integer"), (16, u "digits"), (0, u "[C"), (46, u "<init>"), (17, u "DigitOnes"), (0, u "[B"), (2, u "DigitTens"), (10, .nameAndType 67 101), (0, u "()V"), (85, u "valueOf"), (0, u "(I)Ljava/lang/Integer;"), (0, .class_ 190), (0, u "java/lang/Integer$IntegerCache"), (0, .fieldref 189 192), (0, .nameAndType 193 194), (0, u "high"), (0, u "I"), (0, .fieldref 189 196), (0, .nameAndType 197 198), (0, u "cache"), (0, u "[Ljava/lang/Integer;"), (0, .methodref 1 200), (0, .nameAndType 67 201), (0, u "(I)V"), (0, .methodref 203 100), (0, .class_ 204), (0, u "java/lang/Number"), (0, .fieldref 1 206), (0, .nameAndType 207 194), (0, u "value"), (94, u "TYPE"), (0, u "Ljava/lang/Class;"), (0, .class_ 305), (0, u "java/lang/Comparable"), (0, .class_ 307), (0, u "java/lang/constant/Constable"), (0, .class_ 309), (0, u "java/lang/constant/ConstantDesc"), (0, u "MIN_VALUE"), (1, u "MAX_VALUE"), (3, u "SIZE"), (1, u "BYTES"), (1, u "serialVersionUID"), (0, u "J")] 131

def k9c0 : Code := { maxStack := 3, maxLocals := 1, code := jdk_33_method_22_code, exceptionTable := #[], attributes := #[] }
def k9m0 : Method := { name := "valueOf", desc := "(I)Ljava/lang/Integer;", sig := { parameters := [.int], returnType := some (.object "java/lang/Integer") }, accessFlags := 9, code := some k9c0 }
def k9c1 : Code := { maxStack := 2, maxLocals := 2, code := jdk_33_method_23_code, exceptionTable := #[], attributes := #[] }
def k9m1 : Method := { name := "<init>", desc := "(I)V", sig := { parameters := [.int], returnType := none }, accessFlags := 1, code := some k9c1 }
/-- java/lang/Integer -/
def k9 : Class := { plain "java/lang/Integer" (some 5) with
  accessFlags := 49
  interfaces := #[6, 7, 8]
  cf := some (fileOf pool9 1 #[.nestMembers #[189]] #[{ accessFlags := 9, nameIndex := 187, descriptorIndex := 188, attributes := #[] }, { accessFlags := 1, nameIndex := 67, descriptorIndex := 201, attributes := #[] }] 49 203 #[304, 306, 308] #[{ accessFlags := 25, nameIndex := 310, descriptorIndex := 194, attributes := #[] }, { accessFlags := 25, nameIndex := 312, descriptorIndex := 194, attributes := #[] }, { accessFlags := 25, nameIndex := 302, descriptorIndex := 303, attributes := #[] }, { accessFlags := 24, nameIndex := 19, descriptorIndex := 20, attributes := #[] }, { accessFlags := 24, nameIndex := 89, descriptorIndex := 86, attributes := #[] }, { accessFlags := 24, nameIndex := 85, descriptorIndex := 86, attributes := #[] }, { accessFlags := 18, nameIndex := 207, descriptorIndex := 194, attributes := #[] }, { accessFlags := 25, nameIndex := 316, descriptorIndex := 194, attributes := #[] }, { accessFlags := 25, nameIndex := 318, descriptorIndex := 194, attributes := #[] }, { accessFlags := 26, nameIndex := 320, descriptorIndex := 321, attributes := #[] }])
  fields := #[{ name := "MIN_VALUE", type := .int, accessFlags := 25, slot := 0, constantValue := 0 }, { name := "MAX_VALUE", type := .int, accessFlags := 25, slot := 1, constantValue := 0 }, { name := "TYPE", type := (.object "java/lang/Class"), accessFlags := 25, slot := 2, constantValue := 0 }, { name := "digits", type := (.array .char), accessFlags := 24, slot := 3, constantValue := 0 }, { name := "DigitTens", type := (.array .byte), accessFlags := 24, slot := 4, constantValue := 0 }, { name := "DigitOnes", type := (.array .byte), accessFlags := 24, slot := 5, constantValue := 0 }, { name := "value", type := .int, accessFlags := 18, slot := 0, constantValue := 0 }, { name := "SIZE", type := .int, accessFlags := 25, slot := 6, constantValue := 0 }, { name := "BYTES", type := .int, accessFlags := 25, slot := 7, constantValue := 0 }, { name := "serialVersionUID", type := .long, accessFlags := 26, slot := 8, constantValue := 0 }]
  methods := #[k9m0, k9m1]
  instanceTypes := #[.int]
  staticTypes := #[.int, .int, (.object "java/lang/Class"), (.array .char), (.array .byte), (.array .byte), .int, .int, .long]
  resolved := Array.replicate 453 none
  statics := none }

def pool10 : Array CpInfo := pool [(2, .class_ 4), (1, u "java/lang/Object"), (0, u "<init>"), (0, u "()V"), (0, .class_ 8), (0, u "java/lang/Integer"), (7, .class_ 18), (1, u "java/lang/Integer$IntegerCache"), (0, u "$assertionsDisabled"), (0, u "Z"), (26, u "high"), (0, u "I"), (8, u "archivedCache"), (0, u "[Ljava/lang/Integer;"), (12, u "cache"), (0, u "low")] 27

def k10m0 : Method := { name := "<init>", desc := "()V", sig := { parameters := [], returnType := none }, accessFlags := 2, code := none }
/-- java/lang/Integer$IntegerCache -/
def k10 : Class := { plain "java/lang/Integer$IntegerCache" (some 0) with
  accessFlags := 48
  interfaces := #[]
  cf := some (fileOf pool10 16 #[.nestHost 7] #[{ accessFlags := 2, nameIndex := 5, descriptorIndex := 6, attributes := #[] }] 48 2 #[] #[{ accessFlags := 24, nameIndex := 72, descriptorIndex := 48, attributes := #[] }, { accessFlags := 24, nameIndex := 47, descriptorIndex := 48, attributes := #[] }, { accessFlags := 24, nameIndex := 71, descriptorIndex := 58, attributes := #[] }, { accessFlags := 8, nameIndex := 57, descriptorIndex := 58, attributes := #[] }, { accessFlags := 4120, nameIndex := 19, descriptorIndex := 20, attributes := #[] }])
  fields := #[{ name := "low", type := .int, accessFlags := 24, slot := 0, constantValue := 0 }, { name := "high", type := .int, accessFlags := 24, slot := 1, constantValue := 0 }, { name := "cache", type := (.array (.object "java/lang/Integer")), accessFlags := 24, slot := 2, constantValue := 0 }, { name := "archivedCache", type := (.array (.object "java/lang/Integer")), accessFlags := 8, slot := 3, constantValue := 0 }, { name := "$assertionsDisabled", type := .boolean, accessFlags := 4120, slot := 4, constantValue := 0 }]
  methods := #[k10m0]
  instanceTypes := #[]
  staticTypes := #[.int, .int, (.array (.object "java/lang/Integer")), (.array (.object "java/lang/Integer")), .boolean]
  resolved := Array.replicate 100 none
  statics := some 0 }

def pool11 : Array CpInfo := pool [(1, u "java/lang/Cloneable"), (0, .class_ 1), (0, u "java/lang/Object"), (0, .class_ 3)] 3

/-- java/lang/Cloneable -/
def k11 : Class := { plain "java/lang/Cloneable" (some 0) with
  accessFlags := 1537
  interfaces := #[]
  cf := some (fileOf pool11 2 #[] #[] 1537 4 #[] #[])
  fields := #[]
  methods := #[]
  instanceTypes := #[]
  staticTypes := #[]
  resolved := Array.replicate 8 none
  statics := none }

/-- the primitive byte -/
def k12 : Class := { plain "byte" none with kind := .primitive 'B', accessFlags := 0x411 }
/-- [B -/
def k13 : Class := { plain "[B" (some 0) with kind := .array 12 .byte, interfaces := #[11, 4], accessFlags := 1041 }

/-- the primitive int -/
def k14 : Class := { plain "int" none with kind := .primitive 'I', accessFlags := 0x411 }
/-- [I -/
def k15 : Class := { plain "[I" (some 0) with kind := .array 14 .int, interfaces := #[11, 4], accessFlags := 1041 }

/-- [Ljava/lang/Integer; -/
def k16 : Class := { plain "[Ljava/lang/Integer;" (some 0) with kind := .array 9 (.object "java/lang/Integer"), interfaces := #[11, 4], accessFlags := 1041 }

def heap : Heap := #[{ cls := 10, slots := #[.int 0, .int 127, .ref 1, .null, .int 0], vm := .statics 10 },
  { cls := 16, slots := #[.ref 2, .ref 3, .ref 4, .ref 5, .ref 6, .ref 7, .ref 8, .ref 9, .ref 10, .ref 11, .ref 12, .ref 13, .ref 14, .ref 15, .ref 16, .ref 17, .ref 18, .ref 19, .ref 20, .ref 21, .ref 22, .ref 23, .ref 24, .ref 25, .ref 26, .ref 27, .ref 28, .ref 29, .ref 30, .ref 31, .ref 32, .ref 33, .ref 34, .ref 35, .ref 36, .ref 37, .ref 38, .ref 39, .ref 40, .ref 41, .ref 42, .ref 43, .ref 44, .ref 45, .ref 46, .ref 47, .ref 48, .ref 49, .ref 50, .ref 51, .ref 52, .ref 53, .ref 54, .ref 55, .ref 56, .ref 57, .ref 58, .ref 59, .ref 60, .ref 61, .ref 62, .ref 63, .ref 64, .ref 65, .ref 66, .ref 67, .ref 68, .ref 69, .ref 70, .ref 71, .ref 72, .ref 73, .ref 74, .ref 75, .ref 76, .ref 77, .ref 78, .ref 79, .ref 80, .ref 81, .ref 82, .ref 83, .ref 84, .ref 85, .ref 86, .ref 87, .ref 88, .ref 89, .ref 90, .ref 91, .ref 92, .ref 93, .ref 94, .ref 95, .ref 96, .ref 97, .ref 98, .ref 99, .ref 100, .ref 101, .ref 102, .ref 103, .ref 104, .ref 105, .ref 106, .ref 107, .ref 108, .ref 109, .ref 110, .ref 111, .ref 112, .ref 113, .ref 114, .ref 115, .ref 116, .ref 117, .ref 118, .ref 119, .ref 120, .ref 121, .ref 122, .ref 123, .ref 124, .ref 125, .ref 126, .ref 127, .ref 128, .ref 129, .ref 130, .ref 131, .ref 132, .ref 133, .ref 134, .ref 135, .ref 136, .ref 137, .ref 138, .ref 139, .ref 140, .ref 141, .ref 142, .ref 143, .ref 144, .ref 145, .ref 146, .ref 147, .ref 148, .ref 149, .ref 150, .ref 151, .ref 152, .ref 153, .ref 154, .ref 155, .ref 156, .ref 157, .ref 158, .ref 159, .ref 160, .ref 161, .ref 162, .ref 163, .ref 164, .ref 165, .ref 166, .ref 167, .ref 168, .ref 169, .ref 170, .ref 171, .ref 172, .ref 173, .ref 174, .ref 175, .ref 176, .ref 177, .ref 178, .ref 179, .ref 180, .ref 181, .ref 182, .ref 183, .ref 184, .ref 185, .ref 186, .ref 187, .ref 188, .ref 189, .ref 190, .ref 191, .ref 192, .ref 193, .ref 194, .ref 195, .ref 196, .ref 197, .ref 198, .ref 199, .ref 200, .ref 201, .ref 202, .ref 203, .ref 204, .ref 205, .ref 206, .ref 207, .ref 208, .ref 209, .ref 210, .ref 211, .ref 212, .ref 213, .ref 214, .ref 215, .ref 216, .ref 217, .ref 218, .ref 219, .ref 220, .ref 221, .ref 222, .ref 223, .ref 224, .ref 225, .ref 226, .ref 227, .ref 228, .ref 229, .ref 230, .ref 231, .ref 232, .ref 233, .ref 234, .ref 235, .ref 236, .ref 237, .ref 238, .ref 239, .ref 240, .ref 241, .ref 242, .ref 243, .ref 244, .ref 245, .ref 246, .ref 247, .ref 248, .ref 249, .ref 250, .ref 251, .ref 252, .ref 253, .ref 254, .ref 255, .ref 256, .ref 257], vm := .none },
  { cls := 9, slots := #[.int (-128)], vm := .none },
  { cls := 9, slots := #[.int (-127)], vm := .none },
  { cls := 9, slots := #[.int (-126)], vm := .none },
  { cls := 9, slots := #[.int (-125)], vm := .none },
  { cls := 9, slots := #[.int (-124)], vm := .none },
  { cls := 9, slots := #[.int (-123)], vm := .none },
  { cls := 9, slots := #[.int (-122)], vm := .none },
  { cls := 9, slots := #[.int (-121)], vm := .none },
  { cls := 9, slots := #[.int (-120)], vm := .none },
  { cls := 9, slots := #[.int (-119)], vm := .none },
  { cls := 9, slots := #[.int (-118)], vm := .none },
  { cls := 9, slots := #[.int (-117)], vm := .none },
  { cls := 9, slots := #[.int (-116)], vm := .none },
  { cls := 9, slots := #[.int (-115)], vm := .none },
  { cls := 9, slots := #[.int (-114)], vm := .none },
  { cls := 9, slots := #[.int (-113)], vm := .none },
  { cls := 9, slots := #[.int (-112)], vm := .none },
  { cls := 9, slots := #[.int (-111)], vm := .none },
  { cls := 9, slots := #[.int (-110)], vm := .none },
  { cls := 9, slots := #[.int (-109)], vm := .none },
  { cls := 9, slots := #[.int (-108)], vm := .none },
  { cls := 9, slots := #[.int (-107)], vm := .none },
  { cls := 9, slots := #[.int (-106)], vm := .none },
  { cls := 9, slots := #[.int (-105)], vm := .none },
  { cls := 9, slots := #[.int (-104)], vm := .none },
  { cls := 9, slots := #[.int (-103)], vm := .none },
  { cls := 9, slots := #[.int (-102)], vm := .none },
  { cls := 9, slots := #[.int (-101)], vm := .none },
  { cls := 9, slots := #[.int (-100)], vm := .none },
  { cls := 9, slots := #[.int (-99)], vm := .none },
  { cls := 9, slots := #[.int (-98)], vm := .none },
  { cls := 9, slots := #[.int (-97)], vm := .none },
  { cls := 9, slots := #[.int (-96)], vm := .none },
  { cls := 9, slots := #[.int (-95)], vm := .none },
  { cls := 9, slots := #[.int (-94)], vm := .none },
  { cls := 9, slots := #[.int (-93)], vm := .none },
  { cls := 9, slots := #[.int (-92)], vm := .none },
  { cls := 9, slots := #[.int (-91)], vm := .none },
  { cls := 9, slots := #[.int (-90)], vm := .none },
  { cls := 9, slots := #[.int (-89)], vm := .none },
  { cls := 9, slots := #[.int (-88)], vm := .none },
  { cls := 9, slots := #[.int (-87)], vm := .none },
  { cls := 9, slots := #[.int (-86)], vm := .none },
  { cls := 9, slots := #[.int (-85)], vm := .none },
  { cls := 9, slots := #[.int (-84)], vm := .none },
  { cls := 9, slots := #[.int (-83)], vm := .none },
  { cls := 9, slots := #[.int (-82)], vm := .none },
  { cls := 9, slots := #[.int (-81)], vm := .none },
  { cls := 9, slots := #[.int (-80)], vm := .none },
  { cls := 9, slots := #[.int (-79)], vm := .none },
  { cls := 9, slots := #[.int (-78)], vm := .none },
  { cls := 9, slots := #[.int (-77)], vm := .none },
  { cls := 9, slots := #[.int (-76)], vm := .none },
  { cls := 9, slots := #[.int (-75)], vm := .none },
  { cls := 9, slots := #[.int (-74)], vm := .none },
  { cls := 9, slots := #[.int (-73)], vm := .none },
  { cls := 9, slots := #[.int (-72)], vm := .none },
  { cls := 9, slots := #[.int (-71)], vm := .none },
  { cls := 9, slots := #[.int (-70)], vm := .none },
  { cls := 9, slots := #[.int (-69)], vm := .none },
  { cls := 9, slots := #[.int (-68)], vm := .none },
  { cls := 9, slots := #[.int (-67)], vm := .none },
  { cls := 9, slots := #[.int (-66)], vm := .none },
  { cls := 9, slots := #[.int (-65)], vm := .none },
  { cls := 9, slots := #[.int (-64)], vm := .none },
  { cls := 9, slots := #[.int (-63)], vm := .none },
  { cls := 9, slots := #[.int (-62)], vm := .none },
  { cls := 9, slots := #[.int (-61)], vm := .none },
  { cls := 9, slots := #[.int (-60)], vm := .none },
  { cls := 9, slots := #[.int (-59)], vm := .none },
  { cls := 9, slots := #[.int (-58)], vm := .none },
  { cls := 9, slots := #[.int (-57)], vm := .none },
  { cls := 9, slots := #[.int (-56)], vm := .none },
  { cls := 9, slots := #[.int (-55)], vm := .none },
  { cls := 9, slots := #[.int (-54)], vm := .none },
  { cls := 9, slots := #[.int (-53)], vm := .none },
  { cls := 9, slots := #[.int (-52)], vm := .none },
  { cls := 9, slots := #[.int (-51)], vm := .none },
  { cls := 9, slots := #[.int (-50)], vm := .none },
  { cls := 9, slots := #[.int (-49)], vm := .none },
  { cls := 9, slots := #[.int (-48)], vm := .none },
  { cls := 9, slots := #[.int (-47)], vm := .none },
  { cls := 9, slots := #[.int (-46)], vm := .none },
  { cls := 9, slots := #[.int (-45)], vm := .none },
  { cls := 9, slots := #[.int (-44)], vm := .none },
  { cls := 9, slots := #[.int (-43)], vm := .none },
  { cls := 9, slots := #[.int (-42)], vm := .none },
  { cls := 9, slots := #[.int (-41)], vm := .none },
  { cls := 9, slots := #[.int (-40)], vm := .none },
  { cls := 9, slots := #[.int (-39)], vm := .none },
  { cls := 9, slots := #[.int (-38)], vm := .none },
  { cls := 9, slots := #[.int (-37)], vm := .none },
  { cls := 9, slots := #[.int (-36)], vm := .none },
  { cls := 9, slots := #[.int (-35)], vm := .none },
  { cls := 9, slots := #[.int (-34)], vm := .none },
  { cls := 9, slots := #[.int (-33)], vm := .none },
  { cls := 9, slots := #[.int (-32)], vm := .none },
  { cls := 9, slots := #[.int (-31)], vm := .none },
  { cls := 9, slots := #[.int (-30)], vm := .none },
  { cls := 9, slots := #[.int (-29)], vm := .none },
  { cls := 9, slots := #[.int (-28)], vm := .none },
  { cls := 9, slots := #[.int (-27)], vm := .none },
  { cls := 9, slots := #[.int (-26)], vm := .none },
  { cls := 9, slots := #[.int (-25)], vm := .none },
  { cls := 9, slots := #[.int (-24)], vm := .none },
  { cls := 9, slots := #[.int (-23)], vm := .none },
  { cls := 9, slots := #[.int (-22)], vm := .none },
  { cls := 9, slots := #[.int (-21)], vm := .none },
  { cls := 9, slots := #[.int (-20)], vm := .none },
  { cls := 9, slots := #[.int (-19)], vm := .none },
  { cls := 9, slots := #[.int (-18)], vm := .none },
  { cls := 9, slots := #[.int (-17)], vm := .none },
  { cls := 9, slots := #[.int (-16)], vm := .none },
  { cls := 9, slots := #[.int (-15)], vm := .none },
  { cls := 9, slots := #[.int (-14)], vm := .none },
  { cls := 9, slots := #[.int (-13)], vm := .none },
  { cls := 9, slots := #[.int (-12)], vm := .none },
  { cls := 9, slots := #[.int (-11)], vm := .none },
  { cls := 9, slots := #[.int (-10)], vm := .none },
  { cls := 9, slots := #[.int (-9)], vm := .none },
  { cls := 9, slots := #[.int (-8)], vm := .none },
  { cls := 9, slots := #[.int (-7)], vm := .none },
  { cls := 9, slots := #[.int (-6)], vm := .none },
  { cls := 9, slots := #[.int (-5)], vm := .none },
  { cls := 9, slots := #[.int (-4)], vm := .none },
  { cls := 9, slots := #[.int (-3)], vm := .none },
  { cls := 9, slots := #[.int (-2)], vm := .none },
  { cls := 9, slots := #[.int (-1)], vm := .none },
  { cls := 9, slots := #[.int 0], vm := .none },
  { cls := 9, slots := #[.int 1], vm := .none },
  { cls := 9, slots := #[.int 2], vm := .none },
  { cls := 9, slots := #[.int 3], vm := .none },
  { cls := 9, slots := #[.int 4], vm := .none },
  { cls := 9, slots := #[.int 5], vm := .none },
  { cls := 9, slots := #[.int 6], vm := .none },
  { cls := 9, slots := #[.int 7], vm := .none },
  { cls := 9, slots := #[.int 8], vm := .none },
  { cls := 9, slots := #[.int 9], vm := .none },
  { cls := 9, slots := #[.int 10], vm := .none },
  { cls := 9, slots := #[.int 11], vm := .none },
  { cls := 9, slots := #[.int 12], vm := .none },
  { cls := 9, slots := #[.int 13], vm := .none },
  { cls := 9, slots := #[.int 14], vm := .none },
  { cls := 9, slots := #[.int 15], vm := .none },
  { cls := 9, slots := #[.int 16], vm := .none },
  { cls := 9, slots := #[.int 17], vm := .none },
  { cls := 9, slots := #[.int 18], vm := .none },
  { cls := 9, slots := #[.int 19], vm := .none },
  { cls := 9, slots := #[.int 20], vm := .none },
  { cls := 9, slots := #[.int 21], vm := .none },
  { cls := 9, slots := #[.int 22], vm := .none },
  { cls := 9, slots := #[.int 23], vm := .none },
  { cls := 9, slots := #[.int 24], vm := .none },
  { cls := 9, slots := #[.int 25], vm := .none },
  { cls := 9, slots := #[.int 26], vm := .none },
  { cls := 9, slots := #[.int 27], vm := .none },
  { cls := 9, slots := #[.int 28], vm := .none },
  { cls := 9, slots := #[.int 29], vm := .none },
  { cls := 9, slots := #[.int 30], vm := .none },
  { cls := 9, slots := #[.int 31], vm := .none },
  { cls := 9, slots := #[.int 32], vm := .none },
  { cls := 9, slots := #[.int 33], vm := .none },
  { cls := 9, slots := #[.int 34], vm := .none },
  { cls := 9, slots := #[.int 35], vm := .none },
  { cls := 9, slots := #[.int 36], vm := .none },
  { cls := 9, slots := #[.int 37], vm := .none },
  { cls := 9, slots := #[.int 38], vm := .none },
  { cls := 9, slots := #[.int 39], vm := .none },
  { cls := 9, slots := #[.int 40], vm := .none },
  { cls := 9, slots := #[.int 41], vm := .none },
  { cls := 9, slots := #[.int 42], vm := .none },
  { cls := 9, slots := #[.int 43], vm := .none },
  { cls := 9, slots := #[.int 44], vm := .none },
  { cls := 9, slots := #[.int 45], vm := .none },
  { cls := 9, slots := #[.int 46], vm := .none },
  { cls := 9, slots := #[.int 47], vm := .none },
  { cls := 9, slots := #[.int 48], vm := .none },
  { cls := 9, slots := #[.int 49], vm := .none },
  { cls := 9, slots := #[.int 50], vm := .none },
  { cls := 9, slots := #[.int 51], vm := .none },
  { cls := 9, slots := #[.int 52], vm := .none },
  { cls := 9, slots := #[.int 53], vm := .none },
  { cls := 9, slots := #[.int 54], vm := .none },
  { cls := 9, slots := #[.int 55], vm := .none },
  { cls := 9, slots := #[.int 56], vm := .none },
  { cls := 9, slots := #[.int 57], vm := .none },
  { cls := 9, slots := #[.int 58], vm := .none },
  { cls := 9, slots := #[.int 59], vm := .none },
  { cls := 9, slots := #[.int 60], vm := .none },
  { cls := 9, slots := #[.int 61], vm := .none },
  { cls := 9, slots := #[.int 62], vm := .none },
  { cls := 9, slots := #[.int 63], vm := .none },
  { cls := 9, slots := #[.int 64], vm := .none },
  { cls := 9, slots := #[.int 65], vm := .none },
  { cls := 9, slots := #[.int 66], vm := .none },
  { cls := 9, slots := #[.int 67], vm := .none },
  { cls := 9, slots := #[.int 68], vm := .none },
  { cls := 9, slots := #[.int 69], vm := .none },
  { cls := 9, slots := #[.int 70], vm := .none },
  { cls := 9, slots := #[.int 71], vm := .none },
  { cls := 9, slots := #[.int 72], vm := .none },
  { cls := 9, slots := #[.int 73], vm := .none },
  { cls := 9, slots := #[.int 74], vm := .none },
  { cls := 9, slots := #[.int 75], vm := .none },
  { cls := 9, slots := #[.int 76], vm := .none },
  { cls := 9, slots := #[.int 77], vm := .none },
  { cls := 9, slots := #[.int 78], vm := .none },
  { cls := 9, slots := #[.int 79], vm := .none },
  { cls := 9, slots := #[.int 80], vm := .none },
  { cls := 9, slots := #[.int 81], vm := .none },
  { cls := 9, slots := #[.int 82], vm := .none },
  { cls := 9, slots := #[.int 83], vm := .none },
  { cls := 9, slots := #[.int 84], vm := .none },
  { cls := 9, slots := #[.int 85], vm := .none },
  { cls := 9, slots := #[.int 86], vm := .none },
  { cls := 9, slots := #[.int 87], vm := .none },
  { cls := 9, slots := #[.int 88], vm := .none },
  { cls := 9, slots := #[.int 89], vm := .none },
  { cls := 9, slots := #[.int 90], vm := .none },
  { cls := 9, slots := #[.int 91], vm := .none },
  { cls := 9, slots := #[.int 92], vm := .none },
  { cls := 9, slots := #[.int 93], vm := .none },
  { cls := 9, slots := #[.int 94], vm := .none },
  { cls := 9, slots := #[.int 95], vm := .none },
  { cls := 9, slots := #[.int 96], vm := .none },
  { cls := 9, slots := #[.int 97], vm := .none },
  { cls := 9, slots := #[.int 98], vm := .none },
  { cls := 9, slots := #[.int 99], vm := .none },
  { cls := 9, slots := #[.int 100], vm := .none },
  { cls := 9, slots := #[.int 101], vm := .none },
  { cls := 9, slots := #[.int 102], vm := .none },
  { cls := 9, slots := #[.int 103], vm := .none },
  { cls := 9, slots := #[.int 104], vm := .none },
  { cls := 9, slots := #[.int 105], vm := .none },
  { cls := 9, slots := #[.int 106], vm := .none },
  { cls := 9, slots := #[.int 107], vm := .none },
  { cls := 9, slots := #[.int 108], vm := .none },
  { cls := 9, slots := #[.int 109], vm := .none },
  { cls := 9, slots := #[.int 110], vm := .none },
  { cls := 9, slots := #[.int 111], vm := .none },
  { cls := 9, slots := #[.int 112], vm := .none },
  { cls := 9, slots := #[.int 113], vm := .none },
  { cls := 9, slots := #[.int 114], vm := .none },
  { cls := 9, slots := #[.int 115], vm := .none },
  { cls := 9, slots := #[.int 116], vm := .none },
  { cls := 9, slots := #[.int 117], vm := .none },
  { cls := 9, slots := #[.int 118], vm := .none },
  { cls := 9, slots := #[.int 119], vm := .none },
  { cls := 9, slots := #[.int 120], vm := .none },
  { cls := 9, slots := #[.int 121], vm := .none },
  { cls := 9, slots := #[.int 122], vm := .none },
  { cls := 9, slots := #[.int 123], vm := .none },
  { cls := 9, slots := #[.int 124], vm := .none },
  { cls := 9, slots := #[.int 125], vm := .none },
  { cls := 9, slots := #[.int 126], vm := .none },
  { cls := 9, slots := #[.int 127], vm := .none }]
def classes : Array Class := #[k0, k1, k2, k3, k4, k5, k6, k7, k8, k9, k10, k11, k12, k13, k14, k15, k16]
def interned : List (Array UInt16 × Addr) := []
def slotsUsed : Nat := 517
def theMethod : MethodId := ⟨1, 1⟩
def args0 : Array Value := #[.int 5, .int 3, .int 7, .int 2, .int 9]
def aboutOver (below : List Frame) : State where
  vm := { classes := classes, interned := interned.toArray }
  heap := heap
  slotsUsed := slotsUsed
  threads := #[{ frames := .invoking theMethod args0 :: below }]
def below0 : List Frame := [.native { method := ⟨0, 0⟩, args := #[] }]
def about1 : State := aboutOver below0
def p0 : Program := .bare "" "" ""
def e0 : Env := launch0.env 0 0 0
theorem w_frames : about1.frames = Frame.invoking theMethod args0 :: below0 := rfl
set_option maxRecDepth 65536 in
theorem w_args : argsFit about1.vm theMethod args0 = true := by decide +kernel
set_option maxRecDepth 65536 in
theorem w_heap : heapFits about1 = true := by decide +kernel
set_option maxRecDepth 65536 in
theorem w_runnable : about1.curStatus? = some .runnable := by decide +kernel
set_option maxRecDepth 65536 in
theorem w_alone : about1.alone = true := by decide +kernel
set_option maxRecDepth 65536 in
theorem w_named : about1.methodNamed? x = some theMethod := by decide +kernel
set_option maxRecDepth 65536 in
theorem w_hears : about1.hears theMethod below0 = true := by decide +kernel
set_option maxRecDepth 65536 in
theorem w_ripe : about1.ripe theMethod args0 below0 = true := by decide +kernel
theorem w_running : about1.status = .running := rfl
set_option maxRecDepth 65536 in
theorem w_room : about1.hasRoom e0.platform room_1 = true :=
  launch0.hasRoom_least _ room_1 (by decide +kernel) (by decide +kernel) (by decide +kernel) (by decide +kernel) (by decide +kernel) (by decide +kernel)
theorem allAtoms_all (ts : List Jvm.Cond) (a : Array Jvm.Value) (st : Jvm.State) : (allAtoms ts).before a st = ts.all (fun c => c.before a st) := by
  induction ts with
  | nil => rfl
  | cons c t ih =>
    show (Jvm.Cond.and c (allAtoms t)).before a st = _
    rw [Jvm.Cond.before_and, ih, List.all_cons]
def words1 : List Jvm.Cond := Jvm.Cond.code x code maxLocals ret :: tables_1
/-- a 'code' word, met by the world's own term for the bytes: nothing is compared byte by byte -/
theorem code_word {y : MethodName} {bytes : ByteArray} {mx : Nat} {rt : Option FieldType} {a : Array Value} {s : State} {m : MethodId} {meth : Method} {c : Code} (h1 : s.methodNamed? y = some m) (h2 : s.vm.method? m = some meth) (h3 : meth.code = some c) (h4 : c.code = bytes)
    (h5 : (c.maxLocals == mx && c.exceptionTable.isEmpty && decide (c.maxStack ≤ mostOperands) && decide (meth.sig.returnType = rt) && !meth.locks && decide (parseMethodDescriptor y.desc = some meth.sig)) = true) : (Jvm.Cond.code y bytes mx rt).before a s = true := by
  simp only [Bool.and_eq_true, beq_iff_eq, Bool.not_eq_true', decide_eq_true_eq] at h5
  obtain ⟨⟨⟨⟨⟨g1, g2⟩, g3⟩, g4⟩, g5⟩, g6⟩ := h5
  simp [Cond.before, Cond.holds, Cond.value, h1, h2, h3, h4, g1, g2, g3, g4, g5, g6]
def isCode : Jvm.Cond → Bool
  | .code _ _ _ _ => true
  | _ => false
theorem all_split {L : List Jvm.Cond} {P : Jvm.Cond → Bool} (h1 : L.all (fun c => isCode c || P c) = true) (h2 : ∀ c ∈ L.filter isCode, P c = true) : L.all P = true := by
  refine List.all_eq_true.mpr fun c hc => ?_
  have h := List.all_eq_true.mp h1 c hc
  rcases Bool.eq_false_or_eq_true (isCode c) with hi | hi
  · exact h2 c (List.mem_filter.mpr ⟨hc, hi⟩)
  · simpa [hi] using h
set_option maxRecDepth 65536 in
theorem w_c0 : (Jvm.Cond.code x code maxLocals ret).before args0 about1 = true := code_word (m := ⟨1, 1⟩) (meth := k1m1) (c := k1c1) (by decide +kernel) rfl rfl rfl (by decide +kernel)
set_option maxRecDepth 65536 in
theorem w_c1 : (Jvm.Cond.code ({ cls := "hexwright/board/Hex", name := "<init>", desc := "(II)V" } : Jvm.MethodName) prog_3_method_1_code (3 : Nat) (Option.none : Option Jvm.ClassFile.FieldType)).before args0 about1 = true := code_word (m := ⟨3, 0⟩) (meth := k3m0) (c := k3c0) (by decide +kernel) rfl rfl rfl (by decide +kernel)
set_option maxRecDepth 65536 in
theorem w_c2 : (Jvm.Cond.code ({ cls := "java/lang/Record", name := "<init>", desc := "()V" } : Jvm.MethodName) jdk_30_method_1_code (1 : Nat) (Option.none : Option Jvm.ClassFile.FieldType)).before args0 about1 = true := code_word (m := ⟨2, 0⟩) (meth := k2m0) (c := k2c0) (by decide +kernel) rfl rfl rfl (by decide +kernel)
set_option maxRecDepth 65536 in
theorem w_c3 : (Jvm.Cond.code ({ cls := "java/lang/Object", name := "<init>", desc := "()V" } : Jvm.MethodName) object_method_1_code (1 : Nat) (Option.none : Option Jvm.ClassFile.FieldType)).before args0 about1 = true := code_word (m := ⟨0, 0⟩) (meth := k0m0) (c := k0c0) (by decide +kernel) rfl rfl rfl (by decide +kernel)
set_option maxRecDepth 65536 in
theorem w_c4 : (Jvm.Cond.code ({ cls := "hexwright/board/Hex", name := "equals", desc := "(Ljava/lang/Object;)Z" } : Jvm.MethodName) prog_3_method_4_code (3 : Nat) (Option.some Jvm.ClassFile.FieldType.boolean)).before args0 about1 = true := code_word (m := ⟨3, 1⟩) (meth := k3m1) (c := k3c1) (by decide +kernel) rfl rfl rfl (by decide +kernel)
set_option maxRecDepth 65536 in
theorem w_c5 : (Jvm.Cond.code ({ cls := "java/lang/Integer", name := "valueOf", desc := "(I)Ljava/lang/Integer;" } : Jvm.MethodName) jdk_33_method_22_code (1 : Nat) (Option.some (Jvm.ClassFile.FieldType.object "java/lang/Integer"))).before args0 about1 = true := code_word (m := ⟨9, 0⟩) (meth := k9m0) (c := k9c0) (by decide +kernel) rfl rfl rfl (by decide +kernel)
set_option maxRecDepth 65536 in
theorem w_c6 : (Jvm.Cond.code ({ cls := "java/lang/Integer", name := "<init>", desc := "(I)V" } : Jvm.MethodName) jdk_33_method_23_code (2 : Nat) (Option.none : Option Jvm.ClassFile.FieldType)).before args0 about1 = true := code_word (m := ⟨9, 1⟩) (meth := k9m1) (c := k9c1) (by decide +kernel) rfl rfl rfl (by decide +kernel)
set_option maxRecDepth 65536 in
theorem w_c7 : (Jvm.Cond.code ({ cls := "java/lang/Number", name := "<init>", desc := "()V" } : Jvm.MethodName) jdk_18_method_1_code (1 : Nat) (Option.none : Option Jvm.ClassFile.FieldType)).before args0 about1 = true := code_word (m := ⟨5, 0⟩) (meth := k5m0) (c := k5c0) (by decide +kernel) rfl rfl rfl (by decide +kernel)
def codes1 : List Jvm.Cond := [Jvm.Cond.code x code maxLocals ret, Jvm.Cond.code ({ cls := "hexwright/board/Hex", name := "<init>", desc := "(II)V" } : Jvm.MethodName) prog_3_method_1_code (3 : Nat) (Option.none : Option Jvm.ClassFile.FieldType), Jvm.Cond.code ({ cls := "java/lang/Record", name := "<init>", desc := "()V" } : Jvm.MethodName) jdk_30_method_1_code (1 : Nat) (Option.none : Option Jvm.ClassFile.FieldType), Jvm.Cond.code ({ cls := "java/lang/Object", name := "<init>", desc := "()V" } : Jvm.MethodName) object_method_1_code (1 : Nat) (Option.none : Option Jvm.ClassFile.FieldType), Jvm.Cond.code ({ cls := "hexwright/board/Hex", name := "equals", desc := "(Ljava/lang/Object;)Z" } : Jvm.MethodName) prog_3_method_4_code (3 : Nat) (Option.some Jvm.ClassFile.FieldType.boolean), Jvm.Cond.code ({ cls := "java/lang/Integer", name := "valueOf", desc := "(I)Ljava/lang/Integer;" } : Jvm.MethodName) jdk_33_method_22_code (1 : Nat) (Option.some (Jvm.ClassFile.FieldType.object "java/lang/Integer")), Jvm.Cond.code ({ cls := "java/lang/Integer", name := "<init>", desc := "(I)V" } : Jvm.MethodName) jdk_33_method_23_code (2 : Nat) (Option.none : Option Jvm.ClassFile.FieldType), Jvm.Cond.code ({ cls := "java/lang/Number", name := "<init>", desc := "()V" } : Jvm.MethodName) jdk_18_method_1_code (1 : Nat) (Option.none : Option Jvm.ClassFile.FieldType)]
set_option maxRecDepth 65536 in
theorem codes_eq : words1.filter isCode = codes1 := rfl
theorem w_codes : ∀ c ∈ words1.filter isCode, c.before args0 about1 = true := by
  rw [codes_eq]
  intro c hc
  simp only [codes1, List.mem_cons, List.not_mem_nil, or_false] at hc
  rcases hc with rfl | rfl | rfl | rfl | rfl | rfl | rfl | rfl
  · exact w_c0
  · exact w_c1
  · exact w_c2
  · exact w_c3
  · exact w_c4
  · exact w_c5
  · exact w_c6
  · exact w_c7
set_option maxRecDepth 65536 in
theorem w_t1 : (words1.take 24).all (fun c => isCode c || c.before args0 about1) = true := by decide +kernel
set_option maxRecDepth 65536 in
theorem w_t2 : ((words1.drop 24).take 24).all (fun c => isCode c || c.before args0 about1) = true := by decide +kernel
set_option maxRecDepth 65536 in
theorem w_t3 : ((words1.drop 24).drop 24).all (fun c => isCode c || c.before args0 about1) = true := by decide +kernel
theorem w_tables : (allAtoms (Jvm.Cond.code x code maxLocals ret :: tables_1)).before args0 about1 = true := by
  rw [allAtoms_all]
  show words1.all (fun c => c.before args0 about1) = true
  refine all_split ?_ w_codes
  rw [← List.take_append_drop 24 words1, List.all_append, w_t1, ← List.take_append_drop 24 (words1.drop 24), List.all_append, w_t2, w_t3]
  rfl
set_option maxRecDepth 65536 in
theorem w_rest : rest_1_c.before args0 about1 = true := by decide +kernel
set_option maxRecDepth 65536 in
theorem w_case : (Jvm.Cond.and given_1 narrow_1).before args0 about1 = true := by decide +kernel
theorem w_applies : (headSpec (Jvm.Cond.code x code maxLocals ret :: tables_1) room_1).applies x e0.platform about1 = true :=
  (Spec.applies_iff w_frames).mpr ⟨w_running, w_runnable, w_alone, w_named, w_hears, w_ripe, w_room, w_tables⟩
theorem atStart : AtStart classFile x code maxLocals ret World_1 tables_1 room_1 Calls_1 rest_1 Pre_1 launch0 p0 e0 about1 theMethod args0 below0 :=
  ⟨lists_1, trivial, launch0.admits_env _ _ _, launch0.least_env, fairChoices_fair.cas, fairChoices_fair.clock, w_frames, w_args, w_heap, w_applies, trivial, w_rest, w_case⟩
end start1
theorem witness_1 : WitnessClaimed_1 := ⟨start1.p0, start1.e0, start1.about1, start1.theMethod, start1.args0, start1.below0, start1.atStart⟩
end Jvm.Pilot.@@N@@
